import Derived.Test.YthbinlnpipgobaaGreatDoorU13
import Derived.Test.YthbinlnpipgobaaGreatDoorU09
namespace Go.Proofs.YthbinlnpipgobaaGreatDoor.Par
set_option linter.unusedVariables false
set_option linter.unusedSimpArgs false
open Go.RowKit Go.Proofs.YthbinlnpipgobaaGreatDoorW.PrintWords Go.Proofs.YthbinlnpipgobaaGreatDoor.Keep Go.Proofs.YthbinlnpipgobaaGreatDoor.Mod Go.Proofs.YthbinlnpipgobaaGreatDoor.Sim Go.Proofs.YthbinlnpipgobaaGreatDoor.Four Go.Proofs.YthbinlnpipgobaaGreatDoor.Step Go.Proofs.YthbinlnpipgobaaGreatDoor.Env Go.Proofs.YthbinlnpipgobaaGreatDoor.Err Go.Proofs.YthbinlnpipgobaaGreatDoor.Lx Go.Proofs.YthbinlnpipgobaaGreatDoor.Ast Go.Proofs.YthbinlnpipgobaaGreatDoor.New Go.Proofs.YthbinlnpipgobaaGreatDoor.Tree Go.Proofs.YthbinlnpipgobaaGreatDoor.Fuel

theorem st_isel {L N : Nat} {S : NL → World → Value → Prop} (hS : ∀ y, Stable L (S y)) (y : NL) : Stable L (ISel L N S y) := fun w w' v hu ⟨ty, x, h, h2⟩ => ⟨ty, x, h, st_sel hS y _ _ _ hu h2⟩
set_option maxRecDepth 100000 in
set_option maxHeartbeats 8000000 in
theorem sel_any (E : At) (L : Nat) (hEL : E.pb < L ∧ E.qb < L) (n N : Nat) (hnN : n ≤ N) (hN : N ≤ 200000) (st : Tok → Option (NL × Tok)) (S : NL → World → Value → Prop) (hS : ∀ y, Stable L (S y)) (hset : SetOk E L n st S) (w : World) (t : Tok) (hP : PS E w t) (hL : L ≤ w.heap.size) (hlt : nu E.s t < n) :
    Calls Tryz.prog 75 #[.pointer (some ⟨E.pb, 0, none⟩)] w (Res E w (nSel (lxOf E.s) st n t) (ISel L N S)) := by
  have HK := Aside0.mk (peek_any E w t 6 hP)
  by_cases hk : t.kind = 6
  · have HF := Aside0.mk (frag_any E L hEL n N hnN hN st S hS hset w t hP hL hlt)
    have HM := Aside0.mk (show nSel (lxOf E.s) st n t = nFrag (lxOf E.s) st n t from if_pos hk)
    have hkb : (t.kind == 6) = true := by rw [hk]; rfl
    generalize nFrag (lxOf E.s) st n t = goal at *
    clear hP hlt hset hk
    go_enter Tryz.func75, Tryz.ntmps75
    go_wp2_with fail
    refine HK.out.mono ?_
    rintro e w1 ⟨rfl, rfl⟩
    go_wp2_with fail
    refine HF.out.mono ?_
    rintro e w2 (⟨y, t1, v, h1, rfl, hg, hk, hp⟩ | ⟨h1, v, ⟨g, rfl⟩, hk⟩)
    · have HR1 := Aside0.mk (⟨h1, hg, hk, hp⟩ : _ ∧ ISel L N S y w2 v ∧ Keeps E.pb E.qb w w2 ∧ PS E w2 t1)
      clear h1 hg hk hp
      go_wp2_with fail
      go_ret2
      exact .inl ⟨y, t1, _, HM.out.trans HR1.out.1, rfl, HR1.out.2.1, HR1.out.2.2.1, HR1.out.2.2.2⟩
    · have HR1 := Aside0.mk (⟨h1, hk⟩ : _ ∧ Keeps E.pb E.qb w w2)
      clear h1 hk
      go_wp2_with fail
      go_ret2
      exact .inr ⟨HM.out.trans HR1.out.1, _, ⟨g, rfl⟩, HR1.out.2⟩
  · have HF := Aside0.mk (field_any E L hEL n N hnN hN st S hS hset w t hP hL hlt)
    have HM := Aside0.mk (show nSel (lxOf E.s) st n t = nField (lxOf E.s) st n t from if_neg hk)
    have hkb : (t.kind == 6) = false := beq_eq_false_iff_ne.2 hk
    generalize nField (lxOf E.s) st n t = goal at *
    clear hP hlt hset hk
    go_enter Tryz.func75, Tryz.ntmps75
    go_wp2_with fail
    refine HK.out.mono ?_
    rintro e w1 ⟨rfl, rfl⟩
    go_wp2_with fail
    refine HF.out.mono ?_
    rintro e w2 (⟨y, t1, v, h1, rfl, ⟨f, rfl, hg⟩, hk, hp⟩ | ⟨h1, v, ⟨g, rfl⟩, hk⟩)
    · have HR1 := Aside0.mk (⟨h1, hg, hk, hp⟩ : _ ∧ GSel L N S y w2 (.iface 235 (.pointer (some ⟨f, 0, none⟩))) ∧ Keeps E.pb E.qb w w2 ∧ PS E w2 t1)
      clear h1 hg hk hp
      go_wp2_with fail
      go_ret2
      exact .inl ⟨y, t1, _, HM.out.trans HR1.out.1, rfl, ⟨_, _, rfl, HR1.out.2.1⟩, HR1.out.2.2.1, HR1.out.2.2.2⟩
    · have HR1 := Aside0.mk (⟨h1, hk⟩ : _ ∧ Keeps E.pb E.qb w w2)
      clear h1 hk
      go_wp2_with fail
      go_ret2
      exact .inr ⟨HM.out.trans HR1.out.1, _, ⟨g, rfl⟩, HR1.out.2⟩
theorem sel_item (E : At) (L : Nat) (hEL : E.pb < L ∧ E.qb < L) (n N : Nat) (hnN : n ≤ N) (hN : N ≤ 200000) (st : Tok → Option (NL × Tok)) (hst : Wt E.s 0 List.length st) (S : NL → World → Value → Prop) (hS : ∀ y, Stable L (S y)) (hset : SetOk E L n st S) : Item E L (nSel (lxOf E.s) st n) (ISel L N S) 75 n := by
  refine ⟨fun W t y t' hP hL hlt hf => ?_, fun W t hP hL hlt hf => ?_, fun t y t' h1 h2 => by have := (wt_sel hst n t _ h1 h2).2.1; show mu E.s t' < mu E.s t; simp only at this; omega⟩
  · refine (sel_any E L hEL n N hnN hN st S hS hset W t hP hL hlt).mono ?_
    rintro e w' (⟨y2, t2, v, h1, h2, ⟨ty, x, rfl, h3⟩, h4, h5⟩ | ⟨h1, _⟩)
    · have h1 := hf.symm.trans h1
      obtain ⟨rfl, rfl⟩ := Prod.mk.inj (Option.some.inj h1)
      exact ⟨_, _, h2, ⟨ty, x, rfl, h3⟩, h4, h5⟩
    · have h1 := hf.symm.trans h1; cases h1
  · refine (sel_any E L hEL n N hnN hN st S hS hset W t hP hL hlt).mono ?_
    rintro e w' (⟨y2, t2, v, h1, _⟩ | ⟨_, h2⟩)
    · have h1 := hf.symm.trans h1; cases h1
    · exact h2
end Go.Proofs.YthbinlnpipgobaaGreatDoor.Par
namespace Go.Proofs.YthbinlnpipgobaaGreatDoor.Par
set_option linter.unusedVariables false
set_option linter.unusedSimpArgs false
open Go.RowKit Go.Proofs.YthbinlnpipgobaaGreatDoorW.PrintWords Go.Proofs.YthbinlnpipgobaaGreatDoor.Keep Go.Proofs.YthbinlnpipgobaaGreatDoor.Mod Go.Proofs.YthbinlnpipgobaaGreatDoor.Sim Go.Proofs.YthbinlnpipgobaaGreatDoor.Four Go.Proofs.YthbinlnpipgobaaGreatDoor.Step Go.Proofs.YthbinlnpipgobaaGreatDoor.Env Go.Proofs.YthbinlnpipgobaaGreatDoor.Err Go.Proofs.YthbinlnpipgobaaGreatDoor.Lx Go.Proofs.YthbinlnpipgobaaGreatDoor.Ast Go.Proofs.YthbinlnpipgobaaGreatDoor.New Go.Proofs.YthbinlnpipgobaaGreatDoor.Tree Go.Proofs.YthbinlnpipgobaaGreatDoor.Fuel

theorem as_s1 (v : Value) (w : World) : (Instr.typeAssert (.iface 235 v) 20 143 false).run Tryz.prog w = .ok (.iface 235 v) w := by kernel_rfl
theorem as_s2 (v : Value) (w : World) : (Instr.typeAssert (.iface 238 v) 20 143 false).run Tryz.prog w = .ok (.iface 238 v) w := by kernel_rfl
theorem as_s3 (v : Value) (w : World) : (Instr.typeAssert (.iface 241 v) 20 143 false).run Tryz.prog w = .ok (.iface 241 v) w := by kernel_rfl
theorem as_sel {L N : Nat} {S : NL → World → Value → Prop} {y : NL} {W : World} {x : Value} (h : GSel L N S y W x) (w : World) : (Instr.typeAssert x 20 143 false).run Tryz.prog w = .ok x w := by
  obtain ⟨g, lv, _, _, h⟩ := h
  rcases h with ⟨rfl, _⟩ | ⟨rfl, _⟩ | ⟨rfl, _⟩
  · exact as_s1 _ _
  · exact as_s2 _ _
  · exact as_s3 _ _
theorem infoSel : (Tryz.prog.info? 143).map (fun i => (i.zero, i.size, i.bytes)) = some (some .nilIface, 1, 16) := by kernel_rfl

set_option maxRecDepth 100000 in
set_option maxHeartbeats 8000000 in
theorem set_step (E : At) (L : Nat) (hEL : E.pb < L ∧ E.qb < L) (n N k : Nat) (hnN : n ≤ N) (hN : N ≤ 200000) (hset : SetOk E L n (nSet (lxOf E.s) n) (GSet L N k)) : SetOk E L (n + 1) (nSet (lxOf E.s) (n + 1)) (GSet L N (k + 1)) := by
  intro w t hP hL hlt
  obtain ⟨i0, hi, hz0, hz1, hz2⟩ := info_parts infoSel
  obtain ⟨c1, c2, c3, c4, c5, c6, c7, c8⟩ := ps_cells hP
  have HV := Aside0.mk (rev_sel E (w.alloc (.cells #[] 143)) t 12 14 true n L (nSel (lxOf E.s) (nSet (lxOf E.s) n) n) (ISel L N (GSet L N k)) (hP.below (below_alloc (Below.refl _ _) _)) (by simp; omega) hEL (sel_item E L hEL n N hnN hN _ (wt_le (wt_set n) (by decide) (fun _ => Nat.le_refl _)) _ (st_set k) hset) (st_isel (st_set k)) (by decide) (by omega) (by omega))
  have HM := Aside0.mk (show nSet (lxOf E.s) (n + 1) t = (nRev (lxOf E.s) (nSel (lxOf E.s) (nSet (lxOf E.s) n) n) 12 14 true n t).map fun x => (nd 5 emp emp emp 0 x.1, x.2) from rfl)
  generalize nSet (lxOf E.s) (n + 1) t = goal at *
  generalize nRev (lxOf E.s) (nSel (lxOf E.s) (nSet (lxOf E.s) n) n) 12 14 true n t = goal2 at *
  have HP0 := Aside0.mk hP
  clear hP hset c1 c2 c3 c4 c5 c7 c8
  go_enter Tryz.func36, Tryz.ntmps36
  go_wp2_with fail
  refine HV.out.mono ?_
  rintro e w2 (⟨zs, t', v, hr, rfl, hrow, hk, hp⟩ | ⟨hr, v, ⟨g, rfl⟩, hk⟩)
  · obtain ⟨A, m, c, rfl, hmc, hm2, hzl, b, ys, hA, hys⟩ := irow_items hrow
    have HZL := Aside0.mk hzl
    have HR := Aside0.mk hr
    have HK := Aside0.mk (((Keeps.refl E.pb E.qb w).alloc _).trans hk)
    have HP := Aside0.mk hp
    have HYS := Aside0.mk hys
    have HA := Aside0.mk hA
    have hsz2 := HK.out.size
    have H8 := Aside0.mk (own_keepK (p := E.pb) (q := E.qb) (own_empty w 143) hk (by have := ps_lt HP0.out; omega))
    have hg8 : w.heap.size < w2.heap.size := by have h := hk.size; simp at h; omega
    clear hr hk hp hys hrow hA hzl
    go_wp2_with fail
    go_loopw [5, 26] (fun v8 v31 wr => ∃ i : Nat, v31 = .int .i64 i ∧ i ≤ m ∧ ((i = 0 ∧ v8 = .slice (some ⟨w.heap.size, 0, none⟩) 0 0 ∧ wr = w2) ∨ (0 < i ∧ Aside0 (CopyInv w2 143 i ys v8 wr)))) (fun _ v31 _ => m - (intOf v31).toNat)
    case atStart => exact ⟨0, rfl, Nat.zero_le _, .inl ⟨rfl, rfl, rfl⟩⟩
    case round =>
      obtain ⟨i, rfl, him, hcase⟩ := hrel
      by_cases hlt : i < m
      · have hlti : (i : Int) < (m : Int) := by omega
        obtain rfl := HA.out (by omega)
        obtain ⟨z, hz, hc0, ⟨ty, y, hy⟩, hgy⟩ := HYS.out i hlt
        have hgy2 : GSel L N (GSet L N k) z w2 (ys i) := by obtain ⟨_, _, e, h⟩ := hgy; rw [e]; exact h
        have hab := as_sel hgy2
        rw [hy] at hab hc0
        clear hgy hgy2 hz
        have HY := Aside0.mk hy
        clear hy
        rcases hcase with ⟨rfl, rfl, rfl⟩ | ⟨hi0, HC⟩
        · go_wp2_with (at_builtin; refine wpList_append_grows _ rfl _ _ 139 rfl 143 i0 .nilIface 1 16 Tryz.underlying139 hi hz0 hz1 hz2 rfl (by decide) (some ⟨w.heap.size, 0, none⟩) 0 0 [] rfl (fun h => by cases h) rfl (fun b hb j u hu => by cases hu) ⟨wr.heap.size, 0, none⟩ 1 1 [.iface ty y] rfl rfl ?c1 ?c2 ?c3 ?c4 ?c5 ?_)
          case c2 => rfl
          case c4 => unfold maxLen; omega
          · intro v' w4 hown' hgrow
            have HS := Aside0.mk (show CopyInv wr 143 1 ys v' w4 from copy_first (by rw [HY.out]; exact hown') hgrow)
            clear hown' hgrow
            go_wp2_with fail
            go_roundw
            case rel => exact ⟨1, by go_num, by omega, .inr ⟨by omega, HS⟩⟩
            case measure => simp [intOf]; omega
        · have hown := HC.out.row
          have hc1 := (HC.out.below.cell (p := ⟨b, i, none⟩) (World.block_lt_of_cell? _ _ hc0)).trans hc0
          have hszr := HC.out.below.size
          have HO := Aside0.mk hown
          clear hown hc0
          go_wp2_with (at_builtin; refine wpList_append_own _ rfl _ _ 139 rfl w2.heap.size 143 i0 .nilIface 1 16 Tryz.underlying139 hi hz0 hz1 hz2 rfl (by decide) _ _ _ rfl (HO.out.alloc _) ⟨wr.heap.size, 0, none⟩ 1 1 [.iface ty y] rfl rfl ?d1 ?d2 ?d3 ?d4 ?d5 ?_)
          case d2 => rfl
          case d3 => unfold maxLen; omega
          case d4 => omega
          case d5 => omega
          · intro v' w4 hown' hgrow _
            have HS := Aside0.mk (copy_step HC.out (by rw [HY.out]; exact hown') hgrow)
            clear hown' hgrow
            go_wp2_with fail
            go_roundw
            case rel => exact ⟨i + 1, by go_num, by omega, .inr ⟨by omega, HS⟩⟩
            case measure => simp [intOf]; omega
      · obtain rfl : i = m := by omega
        have hge : ¬ (i : Int) < (i : Int) := by omega
        have HS : Aside0 (∃ xs, ∃ base, L ≤ base ∧ wr.ownsRow base 143 1 u5 i xs ∧ Both (fun z x => GSel L N (GSet L N k) z wr x) zs xs ∧ Below w2.heap.size w2 wr) := ⟨by
          rcases hcase with ⟨rfl, rfl, rfl⟩ | ⟨hi0, HC⟩
          · obtain rfl := List.eq_nil_of_length_eq_zero HZL.out
            exact ⟨[], w.heap.size, hL, H8.out, trivial, Below.refl _ _⟩
          · refine ⟨_, w2.heap.size, by omega, HC.out.row, ?_, HC.out.below⟩
            rw [← HZL.out]
            refine both_range fun j z hj => ?_
            have hjm : j < i := by rw [← HZL.out]; exact (List.getElem?_eq_some_iff.1 hj).1
            obtain ⟨z', hz', _, _, hg'⟩ := HYS.out j hjm
            rw [hj] at hz'
            obtain rfl := Option.some.inj hz'
            obtain ⟨_, _, e, h⟩ := hg'
            rw [e]
            exact st_sel (st_set k) z _ _ _ (Up.of_below HC.out.below) h⟩
        clear hcase
        have hv8 : ∃ A8 c8, u5 = .slice A8 i c8 := by
          obtain ⟨xs, base, _, h2, _⟩ := HS.out
          rcases h2.2 with ⟨h3, h4⟩ | ⟨g, cap, cur, h3, _⟩
          · exact ⟨none, 0, by rw [h3, h4]⟩
          · exact ⟨_, _, h3⟩
        obtain ⟨A8, c8, rfl⟩ := hv8
        have HBW := Aside0.mk (HS.out.choose_spec.choose_spec.2.2.2)
        have HLC := Aside0.mk (loc_any E wr t' t.start L (HP.out.below HBW.out) (by have := HBW.out.size; omega))
        go_wp2_with fail
        refine HLC.out.mono ?_
        rintro e w4 ⟨v, rfl, hg, ⟨a, rfl⟩, hb⟩
        have HB4 := Aside0.mk hb
        have HGL := Aside0.mk hg
        clear hb hg
        go_wp2_with fail
        refine (new_SelectionSet w4.heap.size _ a A8 i c8 _ (Blk.new _ _ _)).mono ?_
        rintro e w5 ⟨g, rfl, hn5, ⟨s5, hb5⟩, hk5⟩
        have HB5 := Aside0.mk hb5
        have HK5 := Aside0.mk hk5
        clear hb5 hk5
        go_wp2_with fail
        have hbb := made_two HB4.out HK5.out
        have hb45 := made_below HK5.out
        have hb25 := HBW.out.trans (hbb.mono HBW.out.size)
        have hLn : L ≤ g := by have h1 := HBW.out.size; have h2 := HB4.out.size; omega
        obtain ⟨xs, base, hLb, hown, hgx, _⟩ := HS.out
        have hrow := st_rowS (st_sel (st_set k)) _ _ _ (Up.of_below hbb) (growD_of (P := GSel L N (GSet L N k)) hown hLb (by decide) hgx)
        refine bodyPost_ret (v := .tuple #[.pointer (some ⟨g, 0, none⟩), .nilIface]) (by simp [results, Tryz.results36, go_sem]) rfl (.inl ⟨_, t', _, HM.out.trans (by rw [HR.out]; rfl), rfl, ⟨g, rfl, g, _, _, zs, rfl, .of_blk HB5.out hLn rfl (by decide), st_gloc HGL.out hb45, .of_blk HB5.out hLn rfl (by decide), hrow, rfl⟩, HK.out.then hb25, HP.out.below hb25⟩)
  · have HR := Aside0.mk hr
    have HK := Aside0.mk (((Keeps.refl E.pb E.qb w).alloc _).trans hk)
    clear hr hk
    go_wp2_with fail
    go_ret2
    exact .inr ⟨HM.out.trans (by rw [HR.out]; rfl), _, ⟨g, rfl⟩, HK.out⟩
theorem set_any (E : At) (L : Nat) (hEL : E.pb < L ∧ E.qb < L) (N : Nat) (hN : N ≤ 200000) : ∀ n, n ≤ N → SetOk E L n (nSet (lxOf E.s) n) (GSet L N n)
  | 0, _ => fun w t _ _ h => absurd h (Nat.not_lt_zero _)
  | n + 1, h => set_step E L hEL n N n (by omega) hN (set_any E L hEL N hN n (by omega))
end Go.Proofs.YthbinlnpipgobaaGreatDoor.Par
namespace Go.Proofs.YthbinlnpipgobaaGreatDoor.Par
set_option linter.unusedVariables false
set_option linter.unusedSimpArgs false
open Go.RowKit Go.Proofs.YthbinlnpipgobaaGreatDoorW.PrintWords Go.Proofs.YthbinlnpipgobaaGreatDoor.Keep Go.Proofs.YthbinlnpipgobaaGreatDoor.Mod Go.Proofs.YthbinlnpipgobaaGreatDoor.Sim Go.Proofs.YthbinlnpipgobaaGreatDoor.Four Go.Proofs.YthbinlnpipgobaaGreatDoor.Step Go.Proofs.YthbinlnpipgobaaGreatDoor.Env Go.Proofs.YthbinlnpipgobaaGreatDoor.Err Go.Proofs.YthbinlnpipgobaaGreatDoor.Lx Go.Proofs.YthbinlnpipgobaaGreatDoor.Ast Go.Proofs.YthbinlnpipgobaaGreatDoor.New Go.Proofs.YthbinlnpipgobaaGreatDoor.Tree Go.Proofs.YthbinlnpipgobaaGreatDoor.Fuel

/-- An operation in short form; a fragment. -/
def GOp (L : Nat) (S : NL → World → Value → Prop) (y : NL) (w : World) (v : Value) : Prop := ∃ g lv s A c st z, v = .iface 83 (ptr g) ∧ Cl L w g 1 lv ∧ GLoc L w lv ∧ Cl L w g 2 (.string s) ∧ Cl L w g 3 (.pointer none) ∧ Cl L w g 4 (.slice none 0 0) ∧ Cl L w g 5 (.slice A 0 c) ∧ Cl L w g 6 st ∧ S z w st ∧ y = nd 2 emp emp s 0 [z]
def GFd (L n : Nat) (S : NL → World → Value → Prop) (y : NL) (w : World) (v : Value) : Prop := ∃ g lv s nm tc d st sn sc ds z, v = .iface 94 (ptr g) ∧ Cl L w g 1 lv ∧ GLoc L w lv ∧ Cl L w g 2 (.string s) ∧ Cl L w g 3 nm ∧ GName L sn w nm ∧ Cl L w g 5 tc ∧ GNamed L sc w tc ∧ Cl L w g 6 d ∧ GRowD L (GDir L n) ds w d ∧ Cl L w g 7 st ∧ S z w st ∧ y = nd 3 sn emp sc 0 (ds ++ [z])
theorem st_op {L : Nat} {S : NL → World → Value → Prop} (hS : ∀ y, Stable L (S y)) (y : NL) : Stable L (GOp L S y) := fun w w' v hu ⟨g, lv, s, A, c, st, z, h, h1, h2, h3, h4, h5, h6, h7, h8, h9⟩ => ⟨g, lv, s, A, c, st, z, h, h1.up hu, st_loc _ _ _ hu h2, h3.up hu, h4.up hu, h5.up hu, h6.up hu, h7.up hu, hS z _ _ _ hu h8, h9⟩
theorem st_fd {L n : Nat} {S : NL → World → Value → Prop} (hS : ∀ y, Stable L (S y)) (y : NL) : Stable L (GFd L n S y) := fun w w' v hu ⟨g, lv, s, nm, tc, d, st, sn, sc, ds, z, h, h1, h2, h3, h4, h5, h6, h7, h8, h9, h10, h11, h12⟩ => ⟨g, lv, s, nm, tc, d, st, sn, sc, ds, z, h, h1.up hu, st_loc _ _ _ hu h2, h3.up hu, h4.up hu, st_name _ _ _ hu h5, h6.up hu, st_named _ _ _ hu h7, h8.up hu, st_rowS (fun _ => st_dir) _ _ _ hu h9, h10.up hu, hS z _ _ _ hu h11, h12⟩
/-- A definition, as the value of an interface. -/
def GDef (L n : Nat) (S : NL → World → Value → Prop) (y : NL) (w : World) (v : Value) : Prop := GOp L S y w v ∨ GFd L n S y w v
theorem st_def {L n : Nat} {S : NL → World → Value → Prop} (hS : ∀ y, Stable L (S y)) (y : NL) : Stable L (GDef L n S y) := fun w w' v hu h => h.elim (fun h => .inl (st_op hS y _ _ _ hu h)) (fun h => .inr (st_fd hS y _ _ _ hu h))
def queryT : ByteArray := ⟨#[113, 117, 101, 114, 121]⟩

set_option maxRecDepth 100000 in
set_option maxHeartbeats 8000000 in
theorem op_any (E : At) (L : Nat) (hEL : E.pb < L ∧ E.qb < L) (n : Nat) (st : Tok → Option (NL × Tok)) (S : NL → World → Value → Prop) (hS : ∀ y, Stable L (S y)) (hset : SetOk E L n st S) (w : World) (t : Tok) (hP : PS E w t) (hL : L ≤ w.heap.size) (hlt : nu E.s t < n) (hk : t.kind = 12) :
    Calls Tryz.prog 19 #[.pointer (some ⟨E.pb, 0, none⟩)] w (Res E w ((st t).map fun s => (nd 2 emp emp queryT 0 [s.1], s.2)) (GOp L S)) := by
  have HK := Aside0.mk (peek_any E w t 12 hP)
  have HS := Aside0.mk (hset w t hP hL hlt)
  have hkb : (t.kind == 12) = true := by rw [hk]; rfl
  obtain ⟨c1, c2, c3, c4, c5, c6, c7, c8⟩ := ps_cells hP
  clear hP hset hlt hk c1 c2 c3 c4 c5 c7 c8
  go_enter Tryz.func19, Tryz.ntmps19
  go_wp2_with fail
  refine HK.out.mono ?_
  rintro e w1 ⟨rfl, rfl⟩
  go_wp2_with fail
  refine HS.out.mono ?_
  rintro e w2 (⟨y, t1, v, h1, rfl, ⟨g, rfl, hg⟩, hk, hp⟩ | ⟨h1, v, ⟨g, rfl⟩, hk⟩)
  · have HR1 := Aside0.mk (⟨h1, hg, hk, hp⟩ : _ ∧ S y w2 (ptr g) ∧ Keeps E.pb E.qb w w2 ∧ PS E w2 t1)
    have HLC := Aside0.mk (fun W (hb : Below w2.heap.size w2 W) => loc_any E W t1 t.start L (HR1.out.2.2.2.below hb) (by have := hb.size; have := HR1.out.2.2.1.size; omega))
    clear h1 hg hk hp
    go_wp2_with fail
    refine (HLC.out _ (below_alloc (Below.refl _ _) _)).mono ?_
    rintro e w4 ⟨v, rfl, hg, ⟨a, rfl⟩, hb⟩
    have HB4 := Aside0.mk (below_one hb)
    have HGL := Aside0.mk hg
    clear hb hg
    go_wp2_with fail
    refine (new_OperationDefinition w4.heap.size _ a _ none none 0 0 (some ⟨w2.heap.size, 0, none⟩) 0 0 (some ⟨g, 0, none⟩) _ (Blk.new _ _ _)).mono ?_
    rintro e w5 ⟨f, rfl, hn5, ⟨s5, hb5⟩, hk5⟩
    have HB5 := Aside0.mk hb5
    have HK5 := Aside0.mk hk5
    clear hb5 hk5
    go_wp2_with fail
    have hbb := made_two HB4.out HK5.out
    have hb45 := made_below HK5.out
    have hLn : L ≤ f := by have h1 := HR1.out.2.2.1.size; have h2 := HB4.out.size; omega
    refine bodyPost_ret (v := .tuple #[.iface 83 (.pointer (some ⟨f, 0, none⟩)), .nilIface]) (by simp [results, Tryz.results19, go_sem]) rfl (.inl ⟨_, t1, _, by rw [HR1.out.1]; rfl, rfl, ⟨f, _, _, _, _, _, y, rfl, .of_blk HB5.out hLn rfl (by decide), st_gloc HGL.out hb45, .of_blk HB5.out hLn rfl (by decide), .of_blk HB5.out hLn rfl (by decide), .of_blk HB5.out hLn rfl (by decide), .of_blk HB5.out hLn rfl (by decide), .of_blk HB5.out hLn rfl (by decide), hS y _ _ _ (Up.of_below hbb) HR1.out.2.1, rfl⟩, HR1.out.2.2.1.then hbb, HR1.out.2.2.2.below hbb⟩)
  · have HR1 := Aside0.mk (⟨h1, hk⟩ : _ ∧ Keeps E.pb E.qb w w2)
    clear h1 hk
    go_wp2_with fail
    go_ret2
    exact .inr ⟨by rw [HR1.out.1]; rfl, _, ⟨g, rfl⟩, HR1.out.2⟩

def fragT : ByteArray := ⟨#[102, 114, 97, 103, 109, 101, 110, 116]⟩
/-- The tokens of a fragment's head, up to its brace. -/
structure FragAt (s : ByteArray) (t t4 : Tok) (nm tc : ByteArray) : Prop where
  toks : ∃ t1 t2 t3, t1.value = nm ∧ t3.value = tc ∧ t.kind = 15 ∧ t.value = fragT ∧ lxOf s t.stop = some t1 ∧ t1.value.toList ≠ onT.toList ∧ mName (lxOf s) t1 = some t2 ∧ t2.kind = 15 ∧ t2.value = onT ∧ lxOf s t2.stop = some t3 ∧ mName (lxOf s) t3 = some t4 ∧ t4.kind = 12
set_option maxRecDepth 100000 in
set_option maxHeartbeats 16000000 in
theorem fragdef_any (E : At) (L : Nat) (hEL : E.pb < L ∧ E.qb < L) (n : Nat) (hN : n ≤ 200000) (st : Tok → Option (NL × Tok)) (S : NL → World → Value → Prop) (hS : ∀ y, Stable L (S y)) (hset : SetOk E L n st S) (w : World) (t t4 : Tok) (nm tc : ByteArray) (hP : PS E w t) (hL : L ≤ w.heap.size) (hlt : nu E.s t4 < n) (hF : FragAt E.s t t4 nm tc) :
    Calls Tryz.prog 81 #[.pointer (some ⟨E.pb, 0, none⟩)] w (Res E w ((st t4).map fun s => (nd 3 nm emp tc 0 [s.1], s.2)) (GFd L n S)) := by
  obtain ⟨t1, t2, t3, rfl, rfl, hk, hv, h1, hon1, h2, hk2, hv2, h3, h4, hk4⟩ := hF.toks
  have HX := Aside0.mk (keyword_yes E w t t1 fragT hP hk hv h1)
  have HF := Aside0.mk (fun W (h : PS E W t1) hl => fname_any E W t1 L h hl)
  have HX2 := Aside0.mk (fun W (h : PS E W t2) => keyword_yes E W t2 t3 onT h hk2 hv2 h3)
  have HN := Aside0.mk (fun W (h : PS E W t3) hl => named_yes E W t3 t4 L h hl h4)
  have HD := Aside0.mk (fun W (h : PS E W t4) hl => dirs_any E L hEL n hN W t4 h hl hlt)
  have hdm : nDirs (lxOf E.s) n n t4 = some ([], t4) := by
    obtain ⟨k, rfl⟩ : ∃ k, n = k + 1 := ⟨n - 1, by omega⟩
    show (if t4.kind = 9 then _ else some ([], t4)) = _
    rw [if_neg (by omega)]
  rw [hdm] at HD
  rw [if_neg hon1, nname_some h2] at HF
  have HS := Aside0.mk (fun W (h : PS E W t4) hl => hset W t4 h hl hlt)
  obtain ⟨c1, c2, c3, c4, c5, c6, c7, c8⟩ := ps_cells hP
  clear hP hset hlt hF hk hv h1 hon1 h2 hk2 hv2 h3 h4 hk4 hdm c1 c2 c3 c4 c5 c7 c8
  unfold fragT at HX
  unfold onT at HX2
  go_enter Tryz.func81, Tryz.ntmps81
  go_wp2_with fail
  refine HX.out.mono ?_
  rintro e w1 ⟨rfl, hk, hp⟩
  have HR1 := Aside0.mk (hk.alloc (.cells #[.int .i64 t.kind, .int .i64 t.start, .int .i64 t.stop, .string t.value] 68))
  have HFF := Aside0.mk (HF.out _ (ps_one hp (.cells #[.int .i64 t.kind, .int .i64 t.start, .int .i64 t.stop, .string t.value] 68)) (by have := hk.size; simp; omega))
  clear hk hp
  go_wp2_with fail
  generalize w1.alloc (.cells #[.int .i64 t.kind, .int .i64 t.start, .int .i64 t.stop, .string t.value] 68) = w1' at *
  refine HFF.out.mono ?_
  rintro e w2 (⟨sn, t2', v, e2, rfl, ⟨nm, rfl, hg⟩, hk, hp⟩ | ⟨e2, _⟩)
  case inr => cases e2
  obtain ⟨rfl, rfl⟩ := Prod.mk.inj (Option.some.inj e2)
  have HR2 := Aside0.mk (⟨hg, hk⟩ : GName L t1.value w2 (ptr nm) ∧ Keeps E.pb E.qb w1' w2)
  have HXX := Aside0.mk (HX2.out w2 hp)
  clear hg hk hp e2
  go_wp2_with fail
  refine HXX.out.mono ?_
  rintro e w3 ⟨rfl, hk, hp⟩
  have HR3 := Aside0.mk hk
  have HNN := Aside0.mk (HN.out w3 hp (by have a := HR1.out.size; have b := HR2.out.2.size; have c := hk.size; omega))
  clear hk hp
  go_wp2_with fail
  refine HNN.out.mono ?_
  rintro e w4 ⟨tc, rfl, hg, hk, hp⟩
  have HR4 := Aside0.mk (⟨hg, hk⟩ : GNamed L t3.value w4 (ptr tc) ∧ Keeps E.pb E.qb w3 w4)
  have HDD := Aside0.mk (HD.out w4 hp (by have a := HR1.out.size; have b := HR2.out.2.size; have c := HR3.out.size; have d := hk.size; omega))
  clear hg hk hp
  go_wp2_with fail
  refine HDD.out.mono ?_
  rintro e w5 (⟨xd, t5, vd, e5, rfl, hg, hk, hp⟩ | ⟨e5, _⟩)
  case inr => cases e5
  obtain ⟨rfl, rfl⟩ := Prod.mk.inj (Option.some.inj e5)
  obtain ⟨A2, c2, rfl⟩ := growD_shape hg
  have HR5 := Aside0.mk (⟨hg, hk⟩ : GRowD L (GDir L n) [] w5 (.slice A2 0 c2) ∧ Keeps E.pb E.qb w4 w5)
  have HSS := Aside0.mk (HS.out w5 hp (by have a := HR1.out.size; have b := HR2.out.2.size; have c := HR3.out.size; have d := HR4.out.2.size; have x := hk.size; omega))
  clear hg hk hp e5
  go_wp2_with fail
  refine HSS.out.mono ?_
  rintro e w6 (⟨y, t6, v, h6, rfl, ⟨se, rfl, hg⟩, hk, hp⟩ | ⟨h6, v, ⟨g, rfl⟩, hk⟩)
  · have HR6 := Aside0.mk (⟨h6, hg, hk, hp⟩ : _ ∧ S y w6 (ptr se) ∧ Keeps E.pb E.qb w5 w6 ∧ PS E w6 t6)
    have HK6 := Aside0.mk (((((HR1.out.trans HR2.out.2).trans HR3.out).trans HR4.out.2).trans HR5.out.2).trans hk)
    have HLC := Aside0.mk (loc_any E w6 t6 t.start L hp (by have := HK6.out.size; omega))
    clear h6 hg hk hp
    go_wp2_with fail
    refine HLC.out.mono ?_
    rintro e w7 ⟨v, rfl, hg, ⟨a, rfl⟩, hb⟩
    have HB7 := Aside0.mk hb
    have HGL := Aside0.mk hg
    clear hb hg
    go_wp2_with fail
    refine (new_FragmentDefinition w7.heap.size _ a _ (some ⟨nm, 0, none⟩) none 0 0 (some ⟨tc, 0, none⟩) A2 0 c2 (some ⟨se, 0, none⟩) _ (Blk.new _ _ _)).mono ?_
    rintro e w8 ⟨f, rfl, hn, ⟨s5, hb8⟩, hk8⟩
    have HB8 := Aside0.mk hb8
    have HK8 := Aside0.mk hk8
    clear hb8 hk8
    go_wp2_with fail
    have hbb := made_two HB7.out HK8.out
    have hb45 := made_below HK8.out
    have hLn : L ≤ f := by have a := HK6.out.size; have d := HB7.out.size; omega
    have u68 : Up L w6 w8 := Up.of_below hbb
    have u58 := (Up.of_keeps HR6.out.2.2.1 hEL.1 hEL.2).trans u68
    have u48 := (Up.of_keeps HR5.out.2 hEL.1 hEL.2).trans u58
    have u28 := ((Up.of_keeps HR3.out hEL.1 hEL.2).trans (Up.of_keeps HR4.out.2 hEL.1 hEL.2)).trans u48
    refine bodyPost_ret (v := .tuple #[.iface 94 (.pointer (some ⟨f, 0, none⟩)), .nilIface]) (by simp [results, Tryz.results81, go_sem]) rfl (.inl ⟨_, t6, _, by rw [HR6.out.1]; rfl, rfl, ⟨f, _, _, _, _, _, _, _, _, [], y, rfl, .of_blk HB8.out hLn rfl (by decide), st_gloc HGL.out hb45, .of_blk HB8.out hLn rfl (by decide), .of_blk HB8.out hLn rfl (by decide), st_name _ _ _ u28 HR2.out.1, .of_blk HB8.out hLn rfl (by decide), st_named _ _ _ u48 HR4.out.1, .of_blk HB8.out hLn rfl (by decide), st_rowS (fun _ => st_dir) _ _ _ u58 HR5.out.1, .of_blk HB8.out hLn rfl (by decide), hS y _ _ _ u68 HR6.out.2.1, rfl⟩, HK6.out.then hbb, HR6.out.2.2.2.below hbb⟩)
  · have HR6 := Aside0.mk (⟨h6, hk⟩ : _ ∧ Keeps E.pb E.qb w5 w6)
    clear h6 hk
    go_wp2_with fail
    go_ret2
    exact .inr ⟨by rw [HR6.out.1]; rfl, _, ⟨g, rfl⟩, ((((HR1.out.trans HR2.out.2).trans HR3.out).trans HR4.out.2).trans HR5.out.2).trans HR6.out.2⟩
end Go.Proofs.YthbinlnpipgobaaGreatDoor.Par
namespace Go.Proofs.YthbinlnpipgobaaGreatDoor.Par
set_option linter.unusedVariables false
set_option linter.unusedSimpArgs false
open Go.RowKit Go.Proofs.YthbinlnpipgobaaGreatDoorW.PrintWords Go.Proofs.YthbinlnpipgobaaGreatDoor.Keep Go.Proofs.YthbinlnpipgobaaGreatDoor.Mod Go.Proofs.YthbinlnpipgobaaGreatDoor.Sim Go.Proofs.YthbinlnpipgobaaGreatDoor.Four Go.Proofs.YthbinlnpipgobaaGreatDoor.Step Go.Proofs.YthbinlnpipgobaaGreatDoor.Env Go.Proofs.YthbinlnpipgobaaGreatDoor.Err Go.Proofs.YthbinlnpipgobaaGreatDoor.Lx Go.Proofs.YthbinlnpipgobaaGreatDoor.Ast Go.Proofs.YthbinlnpipgobaaGreatDoor.New Go.Proofs.YthbinlnpipgobaaGreatDoor.Tree Go.Proofs.YthbinlnpipgobaaGreatDoor.Fuel

set_option maxRecDepth 100000 in
set_option maxHeartbeats 4000000 in
theorem word_fragment (w : World) :
    Calls Tryz.prog 44 #[.string ⟨#[102, 114, 97, 103, 109, 101, 110, 116]⟩] w fun e w' => e = .returned (.tuple #[.func (.func 81) #[] #[], .bool true]) ∧ w = w' := by
  go_enter Tryz.func44, Tryz.ntmps44
  go_wp2_with fail
  go_ret2
  exact ⟨rfl, rfl⟩
set_option maxRecDepth 100000 in
set_option maxHeartbeats 4000000 in
theorem desc_no (E : At) (w : World) (t : Tok) (hP : PS E w t) (h1 : t.kind ≠ 18) (h2 : t.kind ≠ 19) :
    Calls Tryz.prog 42 #[.pointer (some ⟨E.pb, 0, none⟩)] w fun e w' => e = .returned (.bool false) ∧ w = w' := by
  have HP1 := Aside0.mk (peek_any E _ t 18 hP)
  have HP2 := Aside0.mk (peek_any E _ t 19 hP)
  have k18 : (t.kind == 18) = false := beq_eq_false_iff_ne.2 h1
  have k19 : (t.kind == 19) = false := beq_eq_false_iff_ne.2 h2
  clear hP h1 h2
  go_enter Tryz.func42, Tryz.ntmps42
  go_wp2_with fail
  refine HP1.out.mono ?_
  rintro e w1 ⟨rfl, rfl⟩
  go_wp2_with fail
  refine HP2.out.mono ?_
  rintro e w1 ⟨rfl, rfl⟩
  go_wp2_with fail
  go_ret
  exact ⟨rfl, rfl⟩
set_option maxRecDepth 100000 in
set_option maxHeartbeats 8000000 in
theorem sys_any (E : At) (L : Nat) (n : Nat) (w : World) (t : Tok) (goal : Option (NL × Tok)) (V : NL → World → Value → Prop) (hP : PS E w t) (hL : L ≤ w.heap.size) (hk : t.kind = 15) (hv : t.value = fragT)
    (hF : ∀ w', PS E w' t → w.heap.size ≤ w'.heap.size → Calls Tryz.prog 81 #[.pointer (some ⟨E.pb, 0, none⟩)] w' (Res E w' goal V)) :
    Calls Tryz.prog 20 #[.pointer (some ⟨E.pb, 0, none⟩)] w (Res E w goal V) := by
  have HF := Aside0.mk (hF _ (ps_one hP (.cells #[.int .i64 t.kind, .int .i64 t.start, .int .i64 t.stop, .string t.value] 68)) (by simp))
  have HPD := Aside0.mk (desc_no E _ t (ps_one hP (.cells #[.int .i64 t.kind, .int .i64 t.start, .int .i64 t.stop, .string t.value] 68)) (by omega) (by omega))
  obtain ⟨c1, c2, c3, c4, c5, c6, c7, c8⟩ := ps_cells hP
  rw [hk] at c5 HF HPD
  rw [hv] at c8 HF HPD
  unfold fragT at c8 HF HPD
  clear hP hF hv hk c1 c2 c3 c4
  go_enter Tryz.func20, Tryz.ntmps20
  go_wp2_with fail
  refine HPD.out.mono ?_
  rintro e w1 ⟨rfl, rfl⟩
  go_wp2_with fail
  refine (word_fragment _).mono ?_
  rintro e w1 ⟨rfl, rfl⟩
  go_wp2_with fail
  refine HF.out.mono ?_
  rintro e w2 (⟨y, t1, v, h1, rfl, hg, hk, hp⟩ | ⟨h1, v, ⟨g, rfl⟩, hk⟩)
  · have HR1 := Aside0.mk (⟨h1, hg, ((Keeps.refl E.pb E.qb w).alloc _).trans hk, hp⟩ : _ ∧ V y w2 v ∧ Keeps E.pb E.qb w w2 ∧ PS E w2 t1)
    clear h1 hg hk hp
    go_wp2_with fail
    go_ret2
    exact .inl ⟨y, t1, _, HR1.out.1, rfl, HR1.out.2.1, HR1.out.2.2.1, HR1.out.2.2.2⟩
  · have HR1 := Aside0.mk (⟨h1, ((Keeps.refl E.pb E.qb w).alloc _).trans hk⟩ : _ ∧ Keeps E.pb E.qb w w2)
    clear h1 hk
    go_wp2_with fail
    go_ret2
    exact .inr ⟨HR1.out.1, _, ⟨g, rfl⟩, HR1.out.2⟩
/-- A document, in memory. -/
def GDoc (L : Nat) (V : NL → World → Value → Prop) (y : NL) (w : World) (v : Value) : Prop := ∃ g lv sv xs, v = ptr g ∧ Cl L w g 1 lv ∧ GLoc L w lv ∧ Cl L w g 2 sv ∧ GRowD L V xs w sv ∧ y = nd 1 emp emp emp 0 xs
theorem infoNode : (Tryz.prog.info? 61).map (fun i => (i.zero, i.size, i.bytes)) = some (some .nilIface, 1, 16) := by kernel_rfl
/-- The loop of parseDocument: nothing has been read, or one definition, and the end is reached. -/
structure DocInv (E : At) (L : Nat) (goal : Option (NL × Tok)) (V : NL → World → Value → Prop) (w : World) (t : Tok) (k : Nat) (v : Value) (wr : World) : Prop where
  step : (k = 2 ∧ v = .slice none 0 0 ∧ wr = w) ∨ (k = 1 ∧ ∃ y t', goal = some (y, t') ∧ t'.kind = 1 ∧ PS E wr t' ∧ Keeps E.pb E.qb w wr ∧ GRowD L V [y] wr v)
set_option maxRecDepth 100000 in
set_option maxHeartbeats 8000000 in
theorem doc_op (E : At) (L : Nat) (hEL : E.pb < L ∧ E.qb < L) (w : World) (t : Tok) (goal : Option (NL × Tok)) (V : NL → World → Value → Prop) (hV : ∀ y, Stable L (V y)) (hface : ∀ y w v, V y w v → ∃ ty x, v = .iface ty x) (hP : PS E w t) (hL : L ≤ w.heap.size) (hk : t.kind = 12) (hend : ∀ y t', goal = some (y, t') → t'.kind = 1)
    (hI : Calls Tryz.prog 19 #[.pointer (some ⟨E.pb, 0, none⟩)] w (Res E w goal V)) :
    Calls Tryz.prog 13 #[.pointer (some ⟨E.pb, 0, none⟩)] w fun e w' =>
      (∃ y t' v, goal = some (y, t') ∧ e = .returned (.tuple #[v, .nilIface]) ∧ GDoc L V (nd 1 emp emp emp 0 [y]) w' v ∧ Keeps E.pb E.qb w w') ∨ (goal = none ∧ PErr E w (.pointer none) e w') := by
  obtain ⟨i0, hi, hz0, hz1, hz2⟩ := info_parts infoNode
  have HI := Aside0.mk hI
  have HE := Aside0.mk hend
  have HP := Aside0.mk hP
  have HF := Aside0.mk hface
  have HSK := Aside0.mk (skip_no E w t 1 hP (by omega))
  have HV := Aside0.mk hV
  have HS := Aside0.mk (show DocInv E L goal V w t 2 (.slice none 0 0) w from ⟨.inl ⟨rfl, rfl, rfl⟩⟩)
  obtain ⟨c1, c2, c3, c4, c5, c6, c7, c8⟩ := ps_cells hP
  rw [hk] at c5
  clear hP hI hend hV hface c1 c2 c3 c4 c7 c8
  go_enter Tryz.func13, Tryz.ntmps13
  go_wp2_with fail
  go_loopg [4, 5, 6, 7] 2 (fun k v4 v5 v6 v7 wr => Aside0 (DocInv E L goal V w t k v4 wr))
  case atStart => exact HS
  case round =>
    have HST := hrel.out.step
    rcases HST with ⟨rfl, rfl, rfl⟩ | ⟨rfl, y, t', hg, hk1, hps, hkp, hrow⟩
    · clear hrel HS
      go_wp2_with fail
      refine HSK.out.mono ?_
      rintro e w1 ⟨rfl, rfl⟩
      go_wp2_with fail
      refine HI.out.mono ?_
      rintro e w2 (⟨y, t1, v, h1, rfl, hg, hk, hp⟩ | ⟨h1, v, ⟨g, rfl⟩, hk⟩)
      · obtain ⟨ty, x, rfl⟩ := HF.out y w2 v hg
        have HR1 := Aside0.mk (⟨h1, hg, hk, hp⟩ : _ ∧ V y w2 (.iface ty x) ∧ Keeps E.pb E.qb wr w2 ∧ PS E w2 t1)
        clear h1 hg hk hp
        go_wp2_with (at_builtin; refine wpList_append_own _ rfl _ _ 55 rfl w2.heap.size 61 i0 .nilIface 1 16 Tryz.underlying55 hi hz0 hz1 hz2 rfl (by decide) _ _ _ rfl (World.ownsRow_nil _ _ _ _) ⟨w2.heap.size, 0, none⟩ 1 1 [.iface ty x] rfl rfl ?c1 ?c2 ?c3 ?c4 ?c5 ?_)
        case c1 =>
          intro j u hj
          match j, hj with
          | 0, hj => simp at hj; subst hj; simp [Addr.add]
        case c2 => intro u hu; simp at hu; subst hu; rfl
        case c3 => decide
        case c4 => decide
        case c5 => simp
        · intro v' w4 hown' hgrow _
          have hb : Below w2.heap.size w2 w4 := ((Below.refl w2.heap.size w2).alloc (Nat.le_refl _) _).grown hgrow (by simp) (fun g h => by cases h)
          have HR4 := Aside0.mk (show DocInv E L goal V wr t 1 v' w4 from ⟨.inr ⟨rfl, y, t1, HR1.out.1, HE.out y t1 HR1.out.1, HR1.out.2.2.2.below hb, HR1.out.2.2.1.then hb, growD_of (P := V) hown' (by have := HR1.out.2.2.1.size; omega) (by decide) ⟨HV.out y _ _ _ (Up.of_below hb) HR1.out.2.1, trivial⟩⟩⟩)
          clear hown' hgrow hb
          go_wp2_with fail
          go_roundg 1
          case rel => exact HR4
          case measure => decide
      · have HR1 := Aside0.mk (⟨h1, hk⟩ : _ ∧ Keeps E.pb E.qb wr w2)
        clear h1 hk
        go_wp2_with fail
        go_ret2
        exact .inr ⟨HR1.out.1, ⟨g, rfl⟩, HR1.out.2⟩
    · have hend : lxOf E.s t'.stop = some ⟨1, t'.stop, t'.stop, ⟨#[]⟩⟩ := by
        obtain ⟨p, hp, htk⟩ := hps.tok
        rcases lx_prog hp htk with ⟨_, h2⟩ | ⟨h2, _⟩
        · exact lx_end (by omega)
        · exact absurd hk1 h2
      have HSY := Aside0.mk (skip_yes E wr t' _ hps hend)
      rw [hk1] at HSY
      obtain ⟨A8, c8, rfl⟩ := growD_shape hrow
      have HG := Aside0.mk hg
      have HKP := Aside0.mk hkp
      have HRW := Aside0.mk hrow
      clear hrel hg hk1 hps hkp hrow hend HSK HI c5
      go_wp2_with fail
      refine HSY.out.mono ?_
      rintro e w3 ⟨rfl, hk, hp⟩
      have HK3 := Aside0.mk hk
      have HLC := Aside0.mk (loc_any E w3 _ t.start L hp (by have a := HKP.out.size; have b := hk.size; omega))
      have HP3 := Aside0.mk hp
      clear hk hp
      go_wp2_with fail
      refine HLC.out.mono ?_
      rintro e w4 ⟨v, rfl, hg, ⟨a, rfl⟩, hb⟩
      have HB4 := Aside0.mk hb
      have HGL := Aside0.mk hg
      clear hb hg
      go_wp2_with fail
      refine (new_Document w4.heap.size _ a A8 1 c8 _ (Blk.new _ _ _)).mono ?_
      rintro e w5 ⟨g, rfl, hn5, ⟨s5, hb5⟩, hk5⟩
      have HB5 := Aside0.mk hb5
      have HK5 := Aside0.mk hk5
      clear hb5 hk5
      go_wp2_with fail
      have hbb := made_two HB4.out HK5.out
      have hb45 := made_below HK5.out
      have hLn : L ≤ g := by have h1 := HKP.out.size; have h3 := HK3.out.size; have h2 := HB4.out.size; omega
      have hu : Up L wr w5 := (Up.of_keeps HK3.out hEL.1 hEL.2).trans (Up.of_below hbb)
      refine bodyPost_ret (v := .tuple #[.pointer (some ⟨g, 0, none⟩), .nilIface]) (by simp [results, Tryz.results13, go_sem]) rfl (.inl ⟨y, t', _, HG.out, rfl, ⟨g, _, _, [y], rfl, .of_blk HB5.out hLn rfl (by decide), st_gloc HGL.out hb45, .of_blk HB5.out hLn rfl (by decide), st_rowS HV.out _ _ _ hu HRW.out, rfl⟩, (HKP.out.trans HK3.out).then hbb⟩)
set_option maxRecDepth 100000 in
set_option maxHeartbeats 8000000 in
theorem doc_sys (E : At) (L : Nat) (hEL : E.pb < L ∧ E.qb < L) (w : World) (t : Tok) (goal : Option (NL × Tok)) (V : NL → World → Value → Prop) (hV : ∀ y, Stable L (V y)) (hface : ∀ y w v, V y w v → ∃ ty x, v = .iface ty x) (hP : PS E w t) (hL : L ≤ w.heap.size) (hk : t.kind = 15) (hend : ∀ y t', goal = some (y, t') → t'.kind = 1)
    (hI : Calls Tryz.prog 20 #[.pointer (some ⟨E.pb, 0, none⟩)] w (Res E w goal V)) :
    Calls Tryz.prog 13 #[.pointer (some ⟨E.pb, 0, none⟩)] w fun e w' =>
      (∃ y t' v, goal = some (y, t') ∧ e = .returned (.tuple #[v, .nilIface]) ∧ GDoc L V (nd 1 emp emp emp 0 [y]) w' v ∧ Keeps E.pb E.qb w w') ∨ (goal = none ∧ PErr E w (.pointer none) e w') := by
  obtain ⟨i0, hi, hz0, hz1, hz2⟩ := info_parts infoNode
  have HI := Aside0.mk hI
  have HE := Aside0.mk hend
  have HP := Aside0.mk hP
  have HF := Aside0.mk hface
  have HSK := Aside0.mk (skip_no E w t 1 hP (by omega))
  have HV := Aside0.mk hV
  have HS := Aside0.mk (show DocInv E L goal V w t 2 (.slice none 0 0) w from ⟨.inl ⟨rfl, rfl, rfl⟩⟩)
  obtain ⟨c1, c2, c3, c4, c5, c6, c7, c8⟩ := ps_cells hP
  rw [hk] at c5
  clear hP hI hend hV hface c1 c2 c3 c4 c7 c8
  go_enter Tryz.func13, Tryz.ntmps13
  go_wp2_with fail
  go_loopg [4, 5, 6, 7] 2 (fun k v4 v5 v6 v7 wr => Aside0 (DocInv E L goal V w t k v4 wr))
  case atStart => exact HS
  case round =>
    have HST := hrel.out.step
    rcases HST with ⟨rfl, rfl, rfl⟩ | ⟨rfl, y, t', hg, hk1, hps, hkp, hrow⟩
    · clear hrel HS
      go_wp2_with fail
      refine HSK.out.mono ?_
      rintro e w1 ⟨rfl, rfl⟩
      go_wp2_with fail
      refine HI.out.mono ?_
      rintro e w2 (⟨y, t1, v, h1, rfl, hg, hk, hp⟩ | ⟨h1, v, ⟨g, rfl⟩, hk⟩)
      · obtain ⟨ty, x, rfl⟩ := HF.out y w2 v hg
        have HR1 := Aside0.mk (⟨h1, hg, hk, hp⟩ : _ ∧ V y w2 (.iface ty x) ∧ Keeps E.pb E.qb wr w2 ∧ PS E w2 t1)
        clear h1 hg hk hp
        go_wp2_with (at_builtin; refine wpList_append_own _ rfl _ _ 55 rfl w2.heap.size 61 i0 .nilIface 1 16 Tryz.underlying55 hi hz0 hz1 hz2 rfl (by decide) _ _ _ rfl (World.ownsRow_nil _ _ _ _) ⟨w2.heap.size, 0, none⟩ 1 1 [.iface ty x] rfl rfl ?c1 ?c2 ?c3 ?c4 ?c5 ?_)
        case c1 =>
          intro j u hj
          match j, hj with
          | 0, hj => simp at hj; subst hj; simp [Addr.add]
        case c2 => intro u hu; simp at hu; subst hu; rfl
        case c3 => decide
        case c4 => decide
        case c5 => simp
        · intro v' w4 hown' hgrow _
          have hb : Below w2.heap.size w2 w4 := ((Below.refl w2.heap.size w2).alloc (Nat.le_refl _) _).grown hgrow (by simp) (fun g h => by cases h)
          have HR4 := Aside0.mk (show DocInv E L goal V wr t 1 v' w4 from ⟨.inr ⟨rfl, y, t1, HR1.out.1, HE.out y t1 HR1.out.1, HR1.out.2.2.2.below hb, HR1.out.2.2.1.then hb, growD_of (P := V) hown' (by have := HR1.out.2.2.1.size; omega) (by decide) ⟨HV.out y _ _ _ (Up.of_below hb) HR1.out.2.1, trivial⟩⟩⟩)
          clear hown' hgrow hb
          go_wp2_with fail
          go_roundg 1
          case rel => exact HR4
          case measure => decide
      · have HR1 := Aside0.mk (⟨h1, hk⟩ : _ ∧ Keeps E.pb E.qb wr w2)
        clear h1 hk
        go_wp2_with fail
        go_ret2
        exact .inr ⟨HR1.out.1, ⟨g, rfl⟩, HR1.out.2⟩
    · have hend : lxOf E.s t'.stop = some ⟨1, t'.stop, t'.stop, ⟨#[]⟩⟩ := by
        obtain ⟨p, hp, htk⟩ := hps.tok
        rcases lx_prog hp htk with ⟨_, h2⟩ | ⟨h2, _⟩
        · exact lx_end (by omega)
        · exact absurd hk1 h2
      have HSY := Aside0.mk (skip_yes E wr t' _ hps hend)
      rw [hk1] at HSY
      obtain ⟨A8, c8, rfl⟩ := growD_shape hrow
      have HG := Aside0.mk hg
      have HKP := Aside0.mk hkp
      have HRW := Aside0.mk hrow
      clear hrel hg hk1 hps hkp hrow hend HSK HI c5
      go_wp2_with fail
      refine HSY.out.mono ?_
      rintro e w3 ⟨rfl, hk, hp⟩
      have HK3 := Aside0.mk hk
      have HLC := Aside0.mk (loc_any E w3 _ t.start L hp (by have a := HKP.out.size; have b := hk.size; omega))
      have HP3 := Aside0.mk hp
      clear hk hp
      go_wp2_with fail
      refine HLC.out.mono ?_
      rintro e w4 ⟨v, rfl, hg, ⟨a, rfl⟩, hb⟩
      have HB4 := Aside0.mk hb
      have HGL := Aside0.mk hg
      clear hb hg
      go_wp2_with fail
      refine (new_Document w4.heap.size _ a A8 1 c8 _ (Blk.new _ _ _)).mono ?_
      rintro e w5 ⟨g, rfl, hn5, ⟨s5, hb5⟩, hk5⟩
      have HB5 := Aside0.mk hb5
      have HK5 := Aside0.mk hk5
      clear hb5 hk5
      go_wp2_with fail
      have hbb := made_two HB4.out HK5.out
      have hb45 := made_below HK5.out
      have hLn : L ≤ g := by have h1 := HKP.out.size; have h3 := HK3.out.size; have h2 := HB4.out.size; omega
      have hu : Up L wr w5 := (Up.of_keeps HK3.out hEL.1 hEL.2).trans (Up.of_below hbb)
      refine bodyPost_ret (v := .tuple #[.pointer (some ⟨g, 0, none⟩), .nilIface]) (by simp [results, Tryz.results13, go_sem]) rfl (.inl ⟨y, t', _, HG.out, rfl, ⟨g, _, _, [y], rfl, .of_blk HB5.out hLn rfl (by decide), st_gloc HGL.out hb45, .of_blk HB5.out hLn rfl (by decide), st_rowS HV.out _ _ _ hu HRW.out, rfl⟩, (HKP.out.trans HK3.out).then hbb⟩)
end Go.Proofs.YthbinlnpipgobaaGreatDoor.Par
