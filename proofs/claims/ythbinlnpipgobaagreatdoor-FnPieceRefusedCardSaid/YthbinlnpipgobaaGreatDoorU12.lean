import Derived.Test.YthbinlnpipgobaaGreatDoorU11
import Derived.Test.YthbinlnpipgobaaGreatDoorU09
import Derived.Test.YthbinlnpipgobaaGreatDoorU08
namespace Go.Proofs.YthbinlnpipgobaaGreatDoor.Par
set_option linter.unusedVariables false
set_option linter.unusedSimpArgs false
open Go.RowKit Go.Proofs.YthbinlnpipgobaaGreatDoorW.PrintWords Go.Proofs.YthbinlnpipgobaaGreatDoor.Keep Go.Proofs.YthbinlnpipgobaaGreatDoor.Mod Go.Proofs.YthbinlnpipgobaaGreatDoor.Sim Go.Proofs.YthbinlnpipgobaaGreatDoor.Four Go.Proofs.YthbinlnpipgobaaGreatDoor.Step Go.Proofs.YthbinlnpipgobaaGreatDoor.Env Go.Proofs.YthbinlnpipgobaaGreatDoor.Err Go.Proofs.YthbinlnpipgobaaGreatDoor.Lx Go.Proofs.YthbinlnpipgobaaGreatDoor.Ast Go.Proofs.YthbinlnpipgobaaGreatDoor.New Go.Proofs.YthbinlnpipgobaaGreatDoor.Tree Go.Proofs.YthbinlnpipgobaaGreatDoor.Fuel

/-- An argument, as the value of an interface. -/
def IArg (L n : Nat) (y : NL) (w : World) (v : Value) : Prop := ∃ g, v = .iface 232 (.pointer (some ⟨g, 0, none⟩)) ∧ GArg L n y w (ptr g)
theorem st_iarg {L n : Nat} {y : NL} : Stable L (IArg L n y) := fun w w' v hu ⟨g, h, h2⟩ => ⟨g, h, st_arg _ _ _ hu h2⟩
set_option maxRecDepth 100000 in
set_option maxHeartbeats 8000000 in
theorem arg_any (E : At) (n : Nat) (HL0 : ∀ L, (E.pb < L ∧ E.qb < L) → ∀ w t, PS E w t → L ≤ w.heap.size → nu E.s t < n → Calls Tryz.prog 116 #[.pointer (some ⟨E.pb, 0, none⟩), .bool false] w fun e w' => VRes E L (nVal (lxOf E.s) false n t) n w e w') (L : Nat) (hEL : E.pb < L ∧ E.qb < L) (w : World) (t : Tok) (hP : PS E w t) (hL : L ≤ w.heap.size) (hlt : nu E.s t < n) :
    Calls Tryz.prog 166 #[.pointer (some ⟨E.pb, 0, none⟩)] w (Res E w (nPair (lxOf E.s) 9 (nVal (lxOf E.s) false n) t) (IArg L n)) := by
  have HN := Aside0.mk (name_any E w t L hP hL)
  have HX := Aside0.mk (fun W t1 (h : PS E W t1) => expect_any E W t1 7 h)
  have HV := Aside0.mk (fun W t1 (h : PS E W t1) hl hn => HL0 L hEL W t1 h hl hn)
  have HM : Aside0 (∀ x, nName (lxOf E.s) t = some x → x.2.stop ≤ E.s.size ∧ mu E.s x.2 + 1 ≤ mu E.s t) := ⟨fun x h => ⟨(wt_name t x hP.le h).1, (wt_name t x hP.le h).2.1⟩⟩
  have HM2 : Aside0 (∀ t1 t2, t1.stop ≤ E.s.size → mTok (lxOf E.s) 7 t1 = some t2 → t2.stop ≤ E.s.size ∧ mu E.s t2 + 1 ≤ mu E.s t1) := ⟨fun t1 t2 h1 h2 => prg_tok (by decide) t1 t2 h1 h2⟩
  have HLT := Aside0.mk (show mu E.s t < n from hlt)
  obtain ⟨c1, c2, c3, c4, c5, c6, c7, c8⟩ := ps_cells hP
  clear hP hlt c1 c2 c3 c4 c5 c7 c8
  go_enter Tryz.func166, Tryz.ntmps166
  go_wp2_with fail
  refine HN.out.mono ?_
  rintro e w2 (⟨nm, t1, v, h1, rfl, ⟨n1, rfl, hg⟩, hk, hp⟩ | ⟨h1, v, ⟨g, rfl⟩, hk⟩)
  · have HR1 := Aside0.mk (⟨h1, hg, hk, hp⟩ : _ ∧ GName L nm w2 (ptr n1) ∧ Keeps E.pb E.qb w w2 ∧ PS E w2 t1)
    have HXX := Aside0.mk (HX.out w2 t1 hp)
    clear h1 hg hk hp
    go_wp2_with fail
    refine HXX.out.mono ?_
    rintro e w3 (⟨t2, h2, rfl, hk, hp⟩ | ⟨h2, ⟨g, rfl⟩, hk⟩)
    · have hl3 : L ≤ w3.heap.size := by have a := HR1.out.2.2.1.size; have b := hk.size; omega
      have HVV := Aside0.mk (HV.out w3 t2 hp hl3 (by have a := HM.out _ HR1.out.1; have b := HM2.out t1 t2 a.1 h2; have c := HLT.out; show mu E.s t2 < n; simp only at a; omega))
      have HR2 := Aside0.mk (⟨h2, hk⟩ : _ ∧ Keeps E.pb E.qb w2 w3)
      clear h2 hk hp
      go_wp2_with fail
      refine HVV.out.mono ?_
      rintro e w4 (⟨y, t3, ty, x, h3, rfl, hg, hk, hp⟩ | ⟨h3, v, ⟨g, rfl⟩, hk⟩)
      · have HR3 := Aside0.mk (⟨h3, hg, hk, hp⟩ : _ ∧ GVal L n y w4 (.iface ty x) ∧ Keeps E.pb E.qb w3 w4 ∧ PS E w4 t3)
        have HLC := Aside0.mk (loc_any E w4 t3 t.start L hp (by have := hk.size; omega))
        clear h3 hg hk hp
        go_wp2_with fail
        refine HLC.out.mono ?_
        rintro e w5 ⟨v, rfl, hg, ⟨a, rfl⟩, hb⟩
        have HB5 := Aside0.mk hb
        have HGL := Aside0.mk hg
        clear hb hg
        go_wp2_with fail
        refine (new_Argument w5.heap.size _ a (some ⟨n1, 0, none⟩) ty x _ (Blk.new _ _ _)).mono ?_
        rintro e w6 ⟨m, rfl, hn, ⟨s5, hb6⟩, hk6⟩
        have HB6 := Aside0.mk hb6
        have HK6 := Aside0.mk hk6
        clear hb6 hk6
        go_wp2_with fail
        have hbb := made_two HB5.out HK6.out
        have hb45 := made_below HK6.out
        have hLn : L ≤ m := by have h2 := HB5.out.size; have h3 := HR3.out.2.2.1.size; omega
        have hu24 : Up L w2 w4 := (Up.of_keeps HR2.out.2 hEL.1 hEL.2).trans (Up.of_keeps HR3.out.2.2.1 hEL.1 hEL.2)
        have hu46 : Up L w4 w6 := Up.of_below hbb
        have hmod : nPair (lxOf E.s) 9 (nVal (lxOf E.s) false n) t = some (nd 9 nm emp emp 0 [y], t3) := by unfold nPair; rw [HR1.out.1]; simp only [Option.bind_some]; rw [HR2.out.1]; simp only [Option.bind_some]; rw [HR3.out.1]; rfl
        refine bodyPost_ret (v := .tuple #[.iface 232 (.pointer (some ⟨m, 0, none⟩)), .nilIface]) (by simp [results, Tryz.results166, go_sem]) rfl (.inl ⟨_, t3, _, hmod, rfl, ⟨m, rfl, ⟨m, _, _, nm, y, _, rfl, .of_blk HB6.out hLn rfl (by decide), st_gloc HGL.out hb45, .of_blk HB6.out hLn rfl (by decide), st_name _ _ _ (hu24.trans hu46) HR1.out.2.1, .of_blk HB6.out hLn rfl (by decide), st_val n _ _ _ _ hu46 HR3.out.2.1, rfl⟩⟩, ((HR1.out.2.2.1.trans HR2.out.2).trans HR3.out.2.2.1).then hbb, HR3.out.2.2.2.below hbb⟩)
      · have HR3 := Aside0.mk (⟨h3, hk⟩ : _ ∧ Keeps E.pb E.qb w3 w4)
        clear h3 hk
        go_wp2_with fail
        go_ret2
        refine .inr ⟨?_, _, ⟨g, rfl⟩, (HR1.out.2.2.1.trans HR2.out.2).trans HR3.out.2⟩
        unfold nPair; rw [HR1.out.1]; simp only [Option.bind_some]; rw [HR2.out.1]; simp only [Option.bind_some]; rw [HR3.out.1]; rfl
    · have HR2 := Aside0.mk (⟨h2, hk⟩ : _ ∧ Keeps E.pb E.qb w2 w3)
      clear h2 hk
      go_wp2_with fail
      go_ret2
      refine .inr ⟨?_, _, ⟨g, rfl⟩, HR1.out.2.2.1.trans HR2.out.2⟩
      unfold nPair; rw [HR1.out.1]; simp only [Option.bind_some]; rw [HR2.out.1]; rfl
  · have HR1 := Aside0.mk (⟨h1, hk⟩ : _ ∧ Keeps E.pb E.qb w w2)
    clear h1 hk
    go_wp2_with fail
    go_ret2
    refine .inr ⟨?_, _, ⟨g, rfl⟩, HR1.out.2⟩
    unfold nPair; rw [HR1.out.1]; rfl
theorem arg_item (E : At) (L : Nat) (hEL : E.pb < L ∧ E.qb < L) (n : Nat) (hN : n ≤ 200000) : Item E L (nArg (lxOf E.s) n) (IArg L n) 166 n := by
  have HL0 := fun L h => (lit_any E n hN L h).1
  refine ⟨fun W t y t' hP hL hlt hf => ?_, fun W t hP hL hlt hf => ?_, fun t y t' h1 h2 => by have := (wt_arg n t _ h1 h2).2.1; unfold nu; unfold mu at this; simp only at this ⊢; omega⟩
  · refine (arg_any E n HL0 L hEL W t hP hL hlt).mono ?_
    rintro e w' (⟨y2, t2, v, h1, h2, ⟨g, rfl, h3⟩, h4, h5⟩ | ⟨h1, _⟩)
    · have h1 := hf.symm.trans h1
      obtain ⟨rfl, rfl⟩ := Prod.mk.inj (Option.some.inj h1)
      exact ⟨_, _, h2, ⟨g, rfl, h3⟩, h4, h5⟩
    · have h1 := hf.symm.trans h1; cases h1
  · refine (arg_any E n HL0 L hEL W t hP hL hlt).mono ?_
    rintro e w' (⟨y2, t2, v, h1, _⟩ | ⟨_, h2⟩)
    · have h1 := hf.symm.trans h1; cases h1
    · exact h2
end Go.Proofs.YthbinlnpipgobaaGreatDoor.Par
namespace Go.Proofs.YthbinlnpipgobaaGreatDoor.Par
set_option linter.unusedVariables false
set_option linter.unusedSimpArgs false
open Go.RowKit Go.Proofs.YthbinlnpipgobaaGreatDoorW.PrintWords Go.Proofs.YthbinlnpipgobaaGreatDoor.Keep Go.Proofs.YthbinlnpipgobaaGreatDoor.Mod Go.Proofs.YthbinlnpipgobaaGreatDoor.Sim Go.Proofs.YthbinlnpipgobaaGreatDoor.Four Go.Proofs.YthbinlnpipgobaaGreatDoor.Step Go.Proofs.YthbinlnpipgobaaGreatDoor.Env Go.Proofs.YthbinlnpipgobaaGreatDoor.Err Go.Proofs.YthbinlnpipgobaaGreatDoor.Lx Go.Proofs.YthbinlnpipgobaaGreatDoor.Ast Go.Proofs.YthbinlnpipgobaaGreatDoor.New Go.Proofs.YthbinlnpipgobaaGreatDoor.Tree Go.Proofs.YthbinlnpipgobaaGreatDoor.Fuel

theorem infoArg : (Tryz.prog.info? 232).map (fun i => (i.zero, i.size, i.bytes)) = some (some (.pointer none), 1, 8) := by kernel_rfl
theorem as_arg (v : Value) (w : World) : (Instr.typeAssert (.iface 232 v) 20 232 false).run Tryz.prog w = .ok v w := by kernel_rfl
/-- The items of a row of arguments, by their places. -/
theorem irow_args {L n : Nat} {zs : List NL} {w : World} {v : Value} (h : IRow (IArg L n) zs w v) : ∃ A m c, v = .slice A m c ∧ m ≤ c ∧ m ≤ 200000 ∧ zs.length = m ∧ ∃ b, ∃ gs : Nat → Nat, (0 < m → A = some ⟨b, 0, none⟩) ∧ ∀ i, i < m → ∃ z, zs[i]? = some z ∧ w.cell? ⟨b, i, none⟩ = some (.iface 232 (.pointer (some ⟨gs i, 0, none⟩))) ∧ GArg L n z w (ptr (gs i)) := by
  obtain ⟨A, m, c, rfl, hc, hm, hl, b, ys, hA, hys⟩ := irow_items h
  have h2 : ∀ i : Nat, ∃ g : Nat, i < m → ∃ z, zs[i]? = some z ∧ ys i = .iface 232 (.pointer (some ⟨g, 0, none⟩)) ∧ GArg L n z w (ptr g) := fun i => by
    by_cases hi : i < m
    · obtain ⟨z, hz, _, _, g, h3, h4⟩ := hys i hi
      exact ⟨g, fun _ => ⟨z, hz, h3, h4⟩⟩
    · exact ⟨0, fun h => absurd h hi⟩
  refine ⟨A, m, c, rfl, hc, hm, hl, b, fun i => Classical.choose (h2 i), hA, fun i hi => ?_⟩
  obtain ⟨z, hz, h3, h4⟩ := Classical.choose_spec (h2 i) hi
  obtain ⟨z', hz', h5, _⟩ := hys i hi
  exact ⟨z, hz, by rw [h5, h3], h4⟩

set_option maxRecDepth 100000 in
set_option maxHeartbeats 8000000 in
theorem args_any (E : At) (L : Nat) (hEL : E.pb < L ∧ E.qb < L) (n : Nat) (hN : n ≤ 200000) (w : World) (t : Tok) (hP : PS E w t) (hL : L ≤ w.heap.size) (hn : nu E.s t ≤ n) :
    Calls Tryz.prog 118 #[.pointer (some ⟨E.pb, 0, none⟩)] w (Res E w (nArgs (lxOf E.s) n t) (GRow L (GArg L n))) := by
  by_cases hk4 : t.kind = 4
  · obtain ⟨i0, hi, hz0, hz1, hz2⟩ := info_parts infoArg
    have HM := Aside0.mk (show nArgs (lxOf E.s) n t = nRev (lxOf E.s) (nArg (lxOf E.s) n) 4 5 true n t from if_pos hk4)
    have hP1 : PS E (w.alloc (.cells #[] 232)) t := hP.below (below_alloc (Below.refl _ _) _)
    have HK4 := Aside0.mk (peek_any E _ t 4 hP1)
    have HV := Aside0.mk (rev_arg E (w.alloc (.cells #[] 232)) t 4 5 true n L (nArg (lxOf E.s) n) (IArg L n) hP1 (by simp; omega) hEL (arg_item E L hEL n hN) (fun _ => st_iarg) (by decide) hn hN)
    have HP0 := Aside0.mk hP
    have hkb : (t.kind == 4) = true := by rw [hk4]; rfl
    clear hP hP1 hk4 hn
    generalize nRev (lxOf E.s) (nArg (lxOf E.s) n) 4 5 true n t = goal2 at *
    generalize nArgs (lxOf E.s) n t = goal at *
    go_enter Tryz.func118, Tryz.ntmps118
    go_wp2_with fail
    refine HK4.out.mono ?_
    rintro e w1 ⟨rfl, rfl⟩
    go_wp2_with fail
    refine HV.out.mono ?_
    rintro e w2 (⟨zs, t', v, hr, rfl, hrow, hk, hp⟩ | ⟨hr, v, ⟨g, rfl⟩, hk⟩)
    · obtain ⟨A, m, c, rfl, hmc, hm2, hzl, b, gs, hA, hys⟩ := irow_args hrow
      have HZL := Aside0.mk hzl
      have HR := Aside0.mk hr
      have HK := Aside0.mk (((Keeps.refl E.pb E.qb w).alloc _).trans hk)
      have HP := Aside0.mk hp
      have HYS := Aside0.mk hys
      have HA := Aside0.mk hA
      have hsz2 := HK.out.size
      have H8 := Aside0.mk (own_keepK (p := E.pb) (q := E.qb) (own_empty w 232) hk (by have := ps_lt HP0.out; omega))
      have hg8 : w.heap.size < w2.heap.size := by have h := hk.size; simp at h; omega
      clear hr hk hp hys hrow hA hzl
      go_wp2_with fail
      go_loopw [4, 23] (fun v8 v31 wr => ∃ i : Nat, v31 = .int .i64 i ∧ i ≤ m ∧ ((i = 0 ∧ v8 = .slice (some ⟨w.heap.size, 0, none⟩) 0 0 ∧ wr = w2) ∨ (0 < i ∧ Aside0 (CopyInv w2 232 i (fun j => ptr (gs j)) v8 wr)))) (fun _ v31 _ => m - (intOf v31).toNat)
      case atStart => exact ⟨0, rfl, Nat.zero_le _, .inl ⟨rfl, rfl, rfl⟩⟩
      case round =>
        obtain ⟨i, rfl, him, hcase⟩ := hrel
        by_cases hlt : i < m
        · have hlti : (i : Int) < (m : Int) := by omega
          obtain rfl := HA.out (by omega)
          obtain ⟨z, hz, hc0, hgy⟩ := HYS.out i hlt
          have hab := as_arg (.pointer (some ⟨gs i, 0, none⟩))
          clear hgy hz
          rcases hcase with ⟨rfl, rfl, rfl⟩ | ⟨hi0, HC⟩
          · go_wp2_with (at_builtin; refine wpList_append_grows _ rfl _ _ 135 rfl 232 i0 (.pointer none) 1 8 Tryz.underlying135 hi hz0 hz1 hz2 rfl (by decide) (some ⟨w.heap.size, 0, none⟩) 0 0 [] rfl (fun h => by cases h) rfl (fun b hb j u hu => by cases hu) ⟨wr.heap.size, 0, none⟩ 1 1 [.pointer (some ⟨gs 0, 0, none⟩)] rfl rfl ?c1 ?c2 ?c3 ?c4 ?c5 ?_)
            case c2 => rfl
            case c4 => unfold maxLen; omega
            · intro v' w4 hown' hgrow
              have HS := Aside0.mk (show CopyInv wr 232 1 (fun j => ptr (gs j)) v' w4 from copy_first hown' hgrow)
              clear hown' hgrow
              go_wp2_with fail
              go_roundw
              case rel => exact ⟨1, by go_num, by omega, .inr ⟨by omega, HS⟩⟩
              case measure => simp [intOf]; omega
          · have hown := HC.out.row
            have hc1 := (HC.out.below.cell (p := ⟨b, i, none⟩) (World.block_lt_of_cell? _ _ hc0)).trans hc0
            have hszr := HC.out.below.size
            have HO := Aside0.mk hown
            clear hown hc0
            go_wp2_with (at_builtin; refine wpList_append_own _ rfl _ _ 135 rfl w2.heap.size 232 i0 (.pointer none) 1 8 Tryz.underlying135 hi hz0 hz1 hz2 rfl (by decide) _ _ _ rfl (HO.out.alloc _) ⟨wr.heap.size, 0, none⟩ 1 1 [.pointer (some ⟨gs i, 0, none⟩)] rfl rfl ?d1 ?d2 ?d3 ?d4 ?d5 ?_)
            case d2 => rfl
            case d3 => unfold maxLen; omega
            case d4 => omega
            case d5 => omega
            · intro v' w4 hown' hgrow _
              have HS := Aside0.mk (copy_step HC.out hown' hgrow)
              clear hown' hgrow
              go_wp2_with fail
              go_roundw
              case rel => exact ⟨i + 1, by go_num, by omega, .inr ⟨by omega, HS⟩⟩
              case measure => simp [intOf]; omega
        · obtain rfl : i = m := by omega
          have hge : ¬ (i : Int) < (i : Int) := by omega
          have HS : Aside0 (∃ xs, ∃ base, L ≤ base ∧ wr.ownsRow base 232 1 u4 i xs ∧ Both (fun z x => GArg L n z wr x) zs xs ∧ Below w2.heap.size w2 wr) := ⟨by
            rcases hcase with ⟨rfl, rfl, rfl⟩ | ⟨hi0, HC⟩
            · obtain rfl := List.eq_nil_of_length_eq_zero HZL.out
              exact ⟨[], w.heap.size, hL, H8.out, trivial, Below.refl _ _⟩
            · refine ⟨_, w2.heap.size, by omega, HC.out.row, ?_, HC.out.below⟩
              rw [← HZL.out]
              refine both_range fun j z hj => ?_
              have hjm : j < i := by rw [← HZL.out]; exact (List.getElem?_eq_some_iff.1 hj).1
              obtain ⟨z', hz', _, hg'⟩ := HYS.out j hjm
              rw [hj] at hz'
              obtain rfl := Option.some.inj hz'
              exact st_arg _ _ _ (Up.of_below HC.out.below) hg'⟩
          clear hcase
          go_wp2_with fail
          go_ret2
          obtain ⟨xs, base, hLb, hown, hgx, hbw⟩ := HS.out
          exact .inl ⟨zs, t', _, HM.out.trans HR.out, rfl, grow_of (P := GArg L n) hown hLb (by decide) hgx, HK.out.then hbw, HP.out.below hbw⟩
    · have HR := Aside0.mk hr
      have HK := Aside0.mk (((Keeps.refl E.pb E.qb w).alloc _).trans hk)
      clear hr hk
      go_wp2_with fail
      go_ret2
      exact .inr ⟨HM.out.trans HR.out, _, ⟨g, rfl⟩, HK.out⟩
  · have hM : nArgs (lxOf E.s) n t = some ([], t) := by
      unfold nArgs
      rw [if_neg hk4]
    have HM := Aside0.mk hM
    have hP1 : PS E (w.alloc (.cells #[] 232)) t := hP.below (below_alloc (Below.refl _ _) _)
    have HK4 := Aside0.mk (peek_any E _ t 4 hP1)
    have HP1 := Aside0.mk hP1
    have hkb : (t.kind == 4) = false := beq_eq_false_iff_ne.2 hk4
    clear hP hP1 hM hk4 hn
    go_enter Tryz.func118, Tryz.ntmps118
    go_wp2_with fail
    refine HK4.out.mono ?_
    rintro e w1 ⟨rfl, rfl⟩
    go_wp2_with fail
    go_ret2
    exact .inl ⟨[], t, _, HM.out, rfl, grow_of (P := GArg L n) (own_empty w 232) hL (by decide) trivial, (Keeps.refl E.pb E.qb w).alloc _, HP1.out⟩
end Go.Proofs.YthbinlnpipgobaaGreatDoor.Par
namespace Go.Proofs.YthbinlnpipgobaaGreatDoor.Par
set_option linter.unusedVariables false
set_option linter.unusedSimpArgs false
open Go.RowKit Go.Proofs.YthbinlnpipgobaaGreatDoorW.PrintWords Go.Proofs.YthbinlnpipgobaaGreatDoor.Keep Go.Proofs.YthbinlnpipgobaaGreatDoor.Mod Go.Proofs.YthbinlnpipgobaaGreatDoor.Sim Go.Proofs.YthbinlnpipgobaaGreatDoor.Four Go.Proofs.YthbinlnpipgobaaGreatDoor.Step Go.Proofs.YthbinlnpipgobaaGreatDoor.Env Go.Proofs.YthbinlnpipgobaaGreatDoor.Err Go.Proofs.YthbinlnpipgobaaGreatDoor.Lx Go.Proofs.YthbinlnpipgobaaGreatDoor.Ast Go.Proofs.YthbinlnpipgobaaGreatDoor.New Go.Proofs.YthbinlnpipgobaaGreatDoor.Tree Go.Proofs.YthbinlnpipgobaaGreatDoor.Fuel

/-- A directive, as a pointer. -/
def IDir (L n : Nat) (y : NL) (w : World) (v : Value) : Prop := ∃ g, v = .pointer (some ⟨g, 0, none⟩) ∧ GDir L n y w (ptr g)
theorem s2_idir {L n : Nat} {y : NL} : Stable2 L (IDir L n y) := fun w w' v hu ⟨g, h, h2⟩ => ⟨g, h, s2_dir _ _ _ hu h2⟩
set_option maxRecDepth 100000 in
set_option maxHeartbeats 8000000 in
theorem dir_any (E : At) (L : Nat) (hEL : E.pb < L ∧ E.qb < L) (n : Nat) (hN : n ≤ 200000) (w : World) (t : Tok) (hP : PS E w t) (hL : L ≤ w.heap.size) (hlt : nu E.s t ≤ n) :
    Calls Tryz.prog 80 #[.pointer (some ⟨E.pb, 0, none⟩)] w (Res E w (nDir (lxOf E.s) n t) (IDir L n)) := by
  have HX := Aside0.mk (expect_any E w t 9 hP)
  have HN := Aside0.mk (fun W t1 (h : PS E W t1) hl => name_any E W t1 L h hl)
  have HV := Aside0.mk (args_any E L hEL n hN)
  have HM : Aside0 (∀ t1, mTok (lxOf E.s) 9 t = some t1 → t1.stop ≤ E.s.size ∧ mu E.s t1 + 1 ≤ mu E.s t) := ⟨fun t1 h => prg_tok (by decide) t t1 hP.le h⟩
  have HM2 : Aside0 (∀ t1 x, t1.stop ≤ E.s.size → nName (lxOf E.s) t1 = some x → x.2.stop ≤ E.s.size ∧ mu E.s x.2 + 1 ≤ mu E.s t1) := ⟨fun t1 x h1 h2 => ⟨(wt_name t1 x h1 h2).1, (wt_name t1 x h1 h2).2.1⟩⟩
  have HLT := Aside0.mk (show mu E.s t ≤ n from hlt)
  obtain ⟨c1, c2, c3, c4, c5, c6, c7, c8⟩ := ps_cells hP
  clear hP hlt c1 c2 c3 c4 c5 c7 c8
  go_enter Tryz.func80, Tryz.ntmps80
  go_wp2_with fail
  refine HX.out.mono ?_
  rintro e w2 (⟨t1, h1, rfl, hk, hp⟩ | ⟨h1, ⟨g, rfl⟩, hk⟩)
  · have HR1 := Aside0.mk (⟨h1, hk⟩ : _ ∧ Keeps E.pb E.qb w w2)
    have HNN := Aside0.mk (HN.out w2 t1 hp (by have := hk.size; omega))
    clear h1 hk hp
    go_wp2_with fail
    refine HNN.out.mono ?_
    rintro e w3 (⟨nm, t2, v, h2, rfl, ⟨n1, rfl, hg⟩, hk, hp⟩ | ⟨h2, v, ⟨g, rfl⟩, hk⟩)
    · have hl3 : L ≤ w3.heap.size := by have a := HR1.out.2.size; have b := hk.size; omega
      have HVV := Aside0.mk (HV.out w3 t2 hp hl3 (by have a := HM.out t1 HR1.out.1; have b := HM2.out t1 _ a.1 h2; have c := HLT.out; show mu E.s t2 ≤ n; simp only at b; omega))
      have HR2 := Aside0.mk (⟨h2, hk, hg⟩ : _ ∧ Keeps E.pb E.qb w2 w3 ∧ GName L nm w3 (ptr n1))
      clear h2 hk hp hg
      go_wp2_with fail
      refine HVV.out.mono ?_
      rintro e w4 (⟨zs, t3, x, h3, rfl, hg, hk, hp⟩ | ⟨h3, v, ⟨g, rfl⟩, hk⟩)
      · obtain ⟨A, c, rfl⟩ := grow_shape hg
        have HR3 := Aside0.mk (⟨h3, hg, hk, hp⟩ : _ ∧ GRow L (GArg L n) zs w4 (.slice A zs.length c) ∧ Keeps E.pb E.qb w3 w4 ∧ PS E w4 t3)
        have HLC := Aside0.mk (loc_any E w4 t3 t.start L hp (by have := hk.size; omega))
        clear h3 hg hk hp
        go_wp2_with fail
        refine HLC.out.mono ?_
        rintro e w5 ⟨v, rfl, hg, ⟨a, rfl⟩, hb⟩
        have HB5 := Aside0.mk hb
        have HGL := Aside0.mk hg
        clear hb hg
        go_wp2_with fail
        refine (new_Directive w5.heap.size _ a (some ⟨n1, 0, none⟩) A zs.length c _ (Blk.new _ _ _)).mono ?_
        rintro e w6 ⟨d, rfl, hn, ⟨s5, hb6⟩, hk6⟩
        have HB6 := Aside0.mk hb6
        have HK6 := Aside0.mk hk6
        clear hb6 hk6
        go_wp2_with fail
        have hbb := made_two HB5.out HK6.out
        have hb45 := made_below HK6.out
        have hLn : L ≤ d := by have h2 := HB5.out.size; have h3 := HR3.out.2.2.1.size; omega
        have hu34 : Up L w3 w4 := Up.of_keeps HR3.out.2.2.1 hEL.1 hEL.2
        have hu46 : Up L w4 w6 := Up.of_below hbb
        have hmod : nDir (lxOf E.s) n t = some (nd 10 nm emp emp 0 zs, t3) := by unfold nDir; rw [HR1.out.1]; simp only [Option.bind_some]; rw [HR2.out.1]; simp only [Option.bind_some]; rw [HR3.out.1]; rfl
        refine bodyPost_ret (v := .tuple #[.pointer (some ⟨d, 0, none⟩), .nilIface]) (by simp [results, Tryz.results80, go_sem]) rfl (.inl ⟨_, t3, _, hmod, rfl, ⟨d, rfl, d, _, _, nm, zs, _, rfl, .of_blk HB6.out hLn rfl (by decide), st_gloc HGL.out hb45, .of_blk HB6.out hLn rfl (by decide), st_name _ _ _ (hu34.trans hu46) HR2.out.2.2, .of_blk HB6.out hLn rfl (by decide), st_row (fun _ => s2_arg) _ _ _ hu46 HR3.out.2.1, rfl⟩, ((HR1.out.2.trans HR2.out.2.1).trans HR3.out.2.2.1).then hbb, HR3.out.2.2.2.below hbb⟩)
      · have HR3 := Aside0.mk (⟨h3, hk⟩ : _ ∧ Keeps E.pb E.qb w3 w4)
        clear h3 hk
        go_wp2_with fail
        go_ret2
        refine .inr ⟨?_, _, ⟨g, rfl⟩, (HR1.out.2.trans HR2.out.2.1).trans HR3.out.2⟩
        unfold nDir; rw [HR1.out.1]; simp only [Option.bind_some]; rw [HR2.out.1]; simp only [Option.bind_some]; rw [HR3.out.1]; rfl
    · have HR2 := Aside0.mk (⟨h2, hk⟩ : _ ∧ Keeps E.pb E.qb w2 w3)
      clear h2 hk
      go_wp2_with fail
      go_ret2
      refine .inr ⟨?_, _, ⟨g, rfl⟩, HR1.out.2.trans HR2.out.2⟩
      unfold nDir; rw [HR1.out.1]; simp only [Option.bind_some]; rw [HR2.out.1]; rfl
  · have HR1 := Aside0.mk (⟨h1, hk⟩ : _ ∧ Keeps E.pb E.qb w w2)
    clear h1 hk
    go_wp2_with fail
    go_ret2
    refine .inr ⟨?_, _, ⟨g, rfl⟩, HR1.out.2⟩
    unfold nDir; rw [HR1.out.1]; rfl

theorem infoDir : (Tryz.prog.info? 134).map (fun i => (i.zero, i.size, i.bytes)) = some (some (.pointer none), 1, 8) := by kernel_rfl
/-- The loop of parseDirectives: i directives read, laid in a row of the call's own. -/
structure DirInv (E : At) (L n : Nat) (w : World) (goal : Option (List NL × Tok)) (N k i : Nat) (ys : List NL) (tk : Tok) (v : Value) (wr : World) : Prop where
  ps : PS E wr tk
  fuel : nu E.s tk < k
  row : ∃ xs, wr.ownsRow w.heap.size 134 1 v i xs ∧ Both (fun y x => IDir L n y wr x) ys xs
  len : ys.length = i
  goal : (nDirs (lxOf E.s) n k tk).map (fun x => (ys ++ x.1, x.2)) = goal
  few : i + k ≤ N
  keep : Keeps E.pb E.qb w wr
theorem dir_step {E : At} {L n : Nat} {w wr w2 w3 : World} {goal : Option (List NL × Tok)} {N k i : Nat} {ys : List NL} {y : NL} {tk t2 t0 : Tok} {v v' : Value} {xs : List Value} {g : Nat} {o : Obj} (h : DirInv E L n w goal N (k + 1) i ys tk v wr) (hk9 : tk.kind = 9) (hf : nDir (lxOf E.s) n tk = some (y, t2)) (h0 : PS E w t0) (hk2 : Keeps E.pb E.qb wr w2) (hp2 : PS E w2 t2) (hx : IDir L n y w2 (.pointer (some ⟨g, 0, none⟩)))
    (hown : w2.ownsRow w.heap.size 134 1 v i xs) (hxs : Both (fun y x => IDir L n y w2 x) ys xs) (hown' : w3.ownsRow w.heap.size 134 1 v' (i + 1) (xs ++ [.pointer (some ⟨g, 0, none⟩)])) (hgrow : (w2.alloc o).grownBy w3 v.ownBlock) :
    DirInv E L n w goal N k (i + 1) (ys ++ [y]) t2 v' w3 := by
  have hsz2 : w.heap.size ≤ w2.heap.size := Nat.le_trans h.keep.size hk2.size
  have hrow : ∀ g, v.ownBlock = some g → w.heap.size ≤ g ∧ ∃ cs fr, (w2.alloc o).heap[g]? = some (.cells cs 134 fr) := by
    intro g hg
    rcases hown.2 with ⟨rfl, _⟩ | ⟨g', cap, cur, rfl, hb, hh, _⟩
    · cases hg
    · have : g' = g := by simpa [Value.ownBlock] using hg
      subst this
      have hlt : g' < w2.heap.size := by
        rcases Nat.lt_or_ge g' w2.heap.size with h1 | h1
        · exact h1
        · rw [Array.getElem?_eq_none h1] at hh; cases hh
      exact ⟨hb, cur, (0, 0), (Below.heap_alloc w2 o g' hlt).trans hh⟩
  have hu : Up2 L w2 w3 := (Up.of_below ((Below.refl _ _).alloc (Nat.le_refl _) o)).two.trans (Up2.of_grown hgrow fun g hg => (hrow g hg).2)
  have hb3 : Below w.heap.size w2 w3 := ((Below.refl w.heap.size w2).alloc hsz2 o).grown hgrow (by simp; omega) (fun g hg => (hrow g hg).1)
  refine ⟨ps_end h0 hp2 hb3, ?_, ⟨_, hown', ?_⟩, by rw [List.length_append, h.len]; rfl, ?_, by have := h.few; omega, keeps_new (h.keep.trans hk2) hb3⟩
  · have h1 := (wt_dir n tk _ h.ps.le hf).2.1
    have h2 : mu E.s tk < k + 1 := h.fuel
    show mu E.s t2 < k
    simp only at h1
    omega
  · exact both_snoc (s2_idir _ _ _ hu hx) (both_mono (fun y v hh => s2_idir _ _ _ hu hh) hxs)
  · have h1 := h.goal
    unfold nDirs at h1
    rw [if_pos hk9, hf] at h1
    rw [← h1]
    simp only [Option.bind_some, Option.map_map]
    congr 1
    funext z
    simp
set_option maxRecDepth 100000 in
set_option maxHeartbeats 8000000 in
theorem dirs_any (E : At) (L : Nat) (hEL : E.pb < L ∧ E.qb < L) (n : Nat) (hN : n ≤ 200000) (w : World) (t : Tok) (hP : PS E w t) (hL : L ≤ w.heap.size) (hlt : nu E.s t < n) :
    Calls Tryz.prog 41 #[.pointer (some ⟨E.pb, 0, none⟩)] w (Res E w (nDirs (lxOf E.s) n n t) (GRowD L (GDir L n))) := by
  obtain ⟨i0, hi, hz0, hz1, hz2⟩ := info_parts infoDir
  have HD := Aside0.mk (dir_any E L hEL n hN)
  have HP := Aside0.mk hP
  have HS := Aside0.mk (show DirInv E L n w (nDirs (lxOf E.s) n n t) n n 0 [] t (.slice (some ⟨w.heap.size, 0, none⟩) 0 0) (w.alloc (.cells #[] 134)) from
    ⟨hP.below (below_alloc (Below.refl _ _) _), hlt, ⟨[], own_empty w _, trivial⟩, rfl, by simp, by omega, (Keeps.refl E.pb E.qb w).alloc _⟩)
  generalize nDirs (lxOf E.s) n n t = goal at *
  clear hP hlt
  go_enter Tryz.func41, Tryz.ntmps41
  go_wp2_with fail
  go_loopg [4] n (fun k v4 wr => ∃ i ys tk, Aside0 (DirInv E L n w goal n k i ys tk v4 wr))
  case atStart => exact ⟨0, [], t, HS⟩
  case round =>
    obtain ⟨i, ys, tk, HV⟩ := hrel
    obtain ⟨k, rfl⟩ : ∃ k, gk = k + 1 := ⟨gk - 1, by have := HV.out.fuel; omega⟩
    have hvs : (u4 = .slice none 0 0 ∧ i = 0) ∨ ∃ g cap, u4 = .slice (some ⟨g, 0, none⟩) i cap := by
      obtain ⟨xs, h2, _⟩ := HV.out.row
      rcases h2.2 with h3 | ⟨g, cap, cur, h3, _⟩
      · exact .inl h3
      · exact .inr ⟨g, cap, h3⟩
    have HPK := Aside0.mk (peek_any E wr tk 9 HV.out.ps)
    by_cases hk9 : tk.kind = 9
    · have hkb : (tk.kind == 9) = true := by rw [hk9]; rfl
      have HDD := Aside0.mk (HD.out wr tk HV.out.ps (by have := HV.out.keep.size; omega) (by have h2 := HV.out.fuel; have h3 := HV.out.few; omega))
      have hg := HV.out.goal
      have hgoal : nDir (lxOf E.s) n tk = none → goal = none := fun hz => by
        rw [← hg]
        unfold nDirs
        rw [if_pos hk9, hz]
        rfl
      have HG := Aside0.mk hgoal
      have HK9 := Aside0.mk hk9
      have hfew := HV.out.few
      have hszr := HV.out.keep.size
      clear hk9 hg hgoal
      go_wp2_with fail
      refine HPK.out.mono ?_
      rintro e w1 ⟨rfl, rfl⟩
      go_wp2_with fail
      refine HDD.out.mono ?_
      rintro e w3 (⟨y2, t2, v, h1, rfl, hgx, hk, hp3⟩ | ⟨h1, v, ⟨g, rfl⟩, hk⟩)
      · obtain ⟨xs, hown0, hxs0⟩ := HV.out.row
        have hown := own_keepK hown0 hk (ps_lt HP.out)
        have hxs : Both (fun y x => IDir L n y w3 x) ys xs := both_mono (fun y v hh => s2_idir _ _ _ (Up.of_keeps hk hEL.1 hEL.2).two hh) hxs0
        have hgx0 := hgx
        obtain ⟨gd, rfl, _⟩ := hgx
        have hsz3 := hk.size
        have HST := Aside0.mk (fun (o : Obj) v' w4 hown' hgrow => dir_step (o := o) (v' := v') (w3 := w4) HV.out HK9.out h1 HP.out hk hp3 hgx0 hown hxs hown' hgrow)
        have HO := Aside0.mk hown
        clear h1 hgx0 hk hp3 hown0 hxs0 hown hxs
        go_wp2_with (at_builtin; refine wpList_append_own _ rfl _ _ 86 rfl w.heap.size 134 i0 (.pointer none) 1 8 Tryz.underlying86 hi hz0 hz1 hz2 rfl (by decide) _ _ _ rfl (HO.out.alloc _) ⟨w3.heap.size, 0, none⟩ 1 1 [.pointer (some ⟨gd, 0, none⟩)] rfl rfl ?c1 ?c2 ?c3 ?c4 ?c5 ?_)
        case c1 =>
          intro j u hj
          match j, hj with
          | 0, hj => simp at hj; subst hj; simp [Addr.add]
        case c2 => intro u hu; simp at hu; subst hu; rfl
        case c3 => unfold maxLen; omega
        case c4 => omega
        case c5 => simp; omega
        · intro v' w4 hown' hgrow _
          have HR4 := Aside0.mk (HST.out _ v' w4 hown' hgrow)
          clear hown' hgrow
          go_wp2_with fail
          go_roundg k
          case rel => exact ⟨i + 1, ys ++ [y2], t2, HR4⟩
          case measure => omega
      · have HR := Aside0.mk (⟨h1, hk⟩ : _ ∧ Keeps E.pb E.qb wr w3)
        clear h1 hk
        go_wp2_with fail
        go_ret2
        exact .inr ⟨HG.out HR.out.1, _, ⟨g, rfl⟩, HV.out.keep.trans HR.out.2⟩
    · have hkb : (tk.kind == 9) = false := beq_eq_false_iff_ne.2 hk9
      have hg := HV.out.goal
      have hgoal : goal = some (ys, tk) := by
        rw [← hg]
        unfold nDirs
        rw [if_neg hk9]
        simp
      have HG := Aside0.mk hgoal
      clear hk9 hg hgoal
      go_wp2_with fail
      refine HPK.out.mono ?_
      rintro e w1 ⟨rfl, rfl⟩
      go_wp2_with fail
      go_ret2
      obtain ⟨xs, hown, hgx⟩ := HV.out.row
      refine .inl ⟨ys, tk, _, HG.out, rfl, growD_of (P := GDir L n) hown hL (by decide) (both_mono (fun y x hh => ?_) hgx), HV.out.keep, HV.out.ps⟩
      obtain ⟨g, rfl, h⟩ := hh
      exact h
end Go.Proofs.YthbinlnpipgobaaGreatDoor.Par
namespace Go.Proofs.YthbinlnpipgobaaGreatDoor.Par
set_option linter.unusedVariables false
set_option linter.unusedSimpArgs false
open Go.RowKit Go.Proofs.YthbinlnpipgobaaGreatDoorW.PrintWords Go.Proofs.YthbinlnpipgobaaGreatDoor.Keep Go.Proofs.YthbinlnpipgobaaGreatDoor.Mod Go.Proofs.YthbinlnpipgobaaGreatDoor.Sim Go.Proofs.YthbinlnpipgobaaGreatDoor.Four Go.Proofs.YthbinlnpipgobaaGreatDoor.Step Go.Proofs.YthbinlnpipgobaaGreatDoor.Env Go.Proofs.YthbinlnpipgobaaGreatDoor.Err Go.Proofs.YthbinlnpipgobaaGreatDoor.Lx Go.Proofs.YthbinlnpipgobaaGreatDoor.Ast Go.Proofs.YthbinlnpipgobaaGreatDoor.New Go.Proofs.YthbinlnpipgobaaGreatDoor.Tree Go.Proofs.YthbinlnpipgobaaGreatDoor.Fuel

theorem adv_any (E : At) (w : World) (t : Tok) (hP : PS E w t) :
    Calls Tryz.prog 34 #[.pointer (some ⟨E.pb, 0, none⟩)] w fun e w' =>
      (∃ t', lxOf E.s t.stop = some t' ∧ e = .returned .nilIface ∧ Keeps E.pb E.qb w w' ∧ PS E w' t') ∨ (lxOf E.s t.stop = none ∧ (∃ g, e = .returned (errV g)) ∧ Keeps E.pb E.qb w w') := by
  cases h : lxOf E.s t.stop with
  | some t' => exact (advance_yes E w t t' hP h).mono fun e w' ⟨h1, h2, h3⟩ => .inl ⟨t', rfl, h1, h2, h3⟩
  | none => exact (advance_no E w t hP h).mono fun e w' ⟨h1, h2⟩ => .inr ⟨rfl, h1, h2⟩
theorem keyword_any (E : At) (w : World) (t : Tok) (x : ByteArray) (hP : PS E w t) :
    Calls Tryz.prog 120 #[.pointer (some ⟨E.pb, 0, none⟩), .string x] w fun e w' =>
      (∃ t', t.kind = 15 ∧ t.value = x ∧ lxOf E.s t.stop = some t' ∧ e = .returned (.tuple #[tokV t, .nilIface]) ∧ Keeps E.pb E.qb w w' ∧ PS E w' t') ∨ (¬ (t.kind = 15 ∧ t.value = x ∧ ∃ t', lxOf E.s t.stop = some t') ∧ (∃ g, e = .returned (.tuple #[tokV t, errV g])) ∧ Keeps E.pb E.qb w w') := by
  by_cases h : t.kind = 15 ∧ t.value = x
  · obtain ⟨h1, h2⟩ := h
    cases hl : lxOf E.s t.stop with
    | some t' => exact (keyword_yes E w t t' x hP h1 h2 hl).mono fun e w' ⟨h3, h4, h5⟩ => .inl ⟨t', h1, h2, rfl, h3, h4, h5⟩
    | none => exact (keyword_adv E w t x hP h1 h2 hl).mono fun e w' ⟨h3, h4⟩ => .inr ⟨fun ⟨_, _, t', h⟩ => (by cases h), h3, h4⟩
  · have hne : t.kind ≠ 15 ∨ t.value.toList ≠ x.toList := by
      by_cases h1 : t.kind = 15
      · exact .inr fun e => h ⟨h1, bytes_inj e⟩
      · exact .inl h1
    exact (keyword_no E w t x hP hne).mono fun e w' ⟨h3, h4⟩ => .inr ⟨fun ⟨a, b, _⟩ => h ⟨a, b⟩, h3, h4⟩
theorem on_list : onT.toList = [111, 110] := by decide +kernel
set_option maxRecDepth 100000 in
set_option maxHeartbeats 4000000 in
theorem fname_any (E : At) (w : World) (t : Tok) (L : Nat) (hP : PS E w t) (hL : L ≤ w.heap.size) :
    Calls Tryz.prog 121 #[.pointer (some ⟨E.pb, 0, none⟩)] w (Res E w (if t.value.toList = onT.toList then none else nName (lxOf E.s) t) (fun s w' v => ∃ n, v = .pointer (some ⟨n, 0, none⟩) ∧ GName L s w' (ptr n))) := by
  have HN := Aside0.mk (name_any E w t L hP hL)
  have HU := Aside0.mk (unexpected_any E w t hP)
  obtain ⟨c1, c2, c3, c4, c5, c6, c7, c8⟩ := ps_cells hP
  clear hP c1 c2 c3 c4 c5 c6 c7
  by_cases hon : t.value.toList = onT.toList
  · rw [if_pos hon]
    have hb : (t.value.toList == [111, 110]) = true := by rw [hon, on_list]; decide
    clear hon
    go_enter Tryz.func121, Tryz.ntmps121
    go_wp2_with fail
    refine HU.out.mono ?_
    rintro e w2 ⟨⟨g, rfl⟩, hk⟩
    have HK := Aside0.mk hk
    clear hk
    go_wp2_with fail
    go_ret2
    exact .inr ⟨rfl, _, ⟨g, rfl⟩, (Keeps.refl E.pb E.qb w).then HK.out⟩
  · rw [if_neg hon]
    have hb : (t.value.toList == [111, 110]) = false := beq_eq_false_iff_ne.2 fun e => hon (e.trans on_list.symm)
    clear hon
    go_enter Tryz.func121, Tryz.ntmps121
    go_wp2_with fail
    refine HN.out.mono ?_
    rintro e w2 (⟨nm, t1, v, h1, rfl, ⟨n1, rfl, hg⟩, hk, hp⟩ | ⟨h1, v, ⟨g, rfl⟩, hk⟩)
    · have HR1 := Aside0.mk (⟨h1, hg, hk, hp⟩ : _ ∧ GName L nm w2 (ptr n1) ∧ Keeps E.pb E.qb w w2 ∧ PS E w2 t1)
      clear h1 hg hk hp
      go_wp2_with fail
      go_ret2
      exact .inl ⟨nm, t1, _, HR1.out.1, rfl, ⟨n1, rfl, HR1.out.2.1⟩, HR1.out.2.2.1, HR1.out.2.2.2⟩
    · have HR1 := Aside0.mk (⟨h1, hk⟩ : _ ∧ Keeps E.pb E.qb w w2)
      clear h1 hk
      go_wp2_with fail
      go_ret2
      exact .inr ⟨HR1.out.1, _, ⟨g, rfl⟩, HR1.out.2⟩
/-- What is asked of a reader of selection sets. -/
def SetOk (E : At) (L n : Nat) (st : Tok → Option (NL × Tok)) (S : NL → World → Value → Prop) : Prop :=
  ∀ w t, PS E w t → L ≤ w.heap.size → nu E.s t < n → Calls Tryz.prog 36 #[.pointer (some ⟨E.pb, 0, none⟩)] w (Res E w (st t) (fun y w' v => ∃ g, v = .pointer (some ⟨g, 0, none⟩) ∧ S y w' (ptr g)))
end Go.Proofs.YthbinlnpipgobaaGreatDoor.Par
