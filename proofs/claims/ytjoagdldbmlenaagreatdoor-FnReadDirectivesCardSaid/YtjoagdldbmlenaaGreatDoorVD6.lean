import Derived.Test.YtjoagdldbmlenaaGreatDoorVD5
import Derived.Test.YtjoagdldbmlenaaGreatDoorVD3
import Derived.Test.YtjoagdldbmlenaaGreatDoorVD1
set_option maxRecDepth 100000
set_option maxHeartbeats 8000000
set_option linter.unusedVariables false
set_option linter.unusedSimpArgs false
namespace Go.Proofs.YtjoagdldbmlenaaGreatDoor.Par
open Go.RowKit Go.Proofs.YtjoagdldbmlenaaGreatDoorW.PrintWords Keep Go.Proofs.YtjoagdldbmlenaaGreatDoor.Mod Sim Four Step Env Err Lx Ast New Tree Fuel
def IArg (L n : Nat) (y : NL) (w : World) (v : Value) : Prop := ∃ g, v = .iface 101 (.pointer (some ⟨g, 0, none⟩)) ∧ GArg L n y w (ptr g)
theorem st_iarg {L n : Nat} {y : NL} : Stable L (IArg L n y) := fun w w' v hu ⟨g, h, h2⟩ => ⟨g, h, st_arg _ _ _ hu h2⟩
theorem arg_any (E : At) (n : Nat) (HL0 : ∀ L, (E.pb < L ∧ E.qb < L) → ∀ w t, PS E w t → L ≤ w.heap.size → nu E.s t < n → Calls Tryz.prog 97 #[.pointer (some ⟨E.pb, 0, none⟩), .bool false] w fun e w' => VRes E L (nVal E.lx false n t) n w e w') (L : Nat) (hEL : E.pb < L ∧ E.qb < L) (w : World) (t : Tok) (hP : PS E w t) (hL : L ≤ w.heap.size) (hlt : nu E.s t < n) :
  Calls Tryz.prog 79 #[.pointer (some ⟨E.pb, 0, none⟩)] w (Res E w (nPair (E.lx) 9 (nVal E.lx false n) t) (IArg L n)) := by
 have HN := aK (name_any E w t L hP hL)
 have HX := aK (fun W t1 (h : PS E W t1) => expect_any E W t1 7 h)
 have HV := aK (fun W t1 (h : PS E W t1) hl hn => HL0 L hEL W t1 h hl hn)
 have HM : Aside0 (∀ x, nName (E.lx) t = some x → x.2.stop ≤ E.s.size ∧ mu E.s x.2 + 1 ≤ mu E.s t) := ⟨fun x h => ⟨(WtL.wt_name hP.src.ok.prog t x hP.le h).1, (WtL.wt_name hP.src.ok.prog t x hP.le h).2.1⟩⟩
 have HM2 : Aside0 (∀ t1 t2, t1.stop ≤ E.s.size → mTok (E.lx) 7 t1 = some t2 → t2.stop ≤ E.s.size ∧ mu E.s t2 + 1 ≤ mu E.s t1) := ⟨fun t1 t2 h1 h2 => WtL.prg_tok hP.src.ok.prog (by decide) t1 t2 h1 h2⟩
 have HLT := aK (show mu E.s t < n from hlt)
 obtain ⟨c1, c2, c3, c4, c5, c6, c7, c8⟩ := ps_cells hP
 clear hP hlt c1 c2 c3 c4 c5 c7 c8
 go_enter Tryz.func79, Tryz.ntmps79
 go_wp2_with fail
 refine HN.out.mono ?_
 rintro e w2 (⟨nm, t1, v, h1, rfl, ⟨n1, rfl, hg⟩, hk, hp⟩ | ⟨h1, v, ⟨g, rfl⟩, hk⟩)
 ·have HR1 := aK (⟨h1, hg, hk, hp⟩ : _ ∧ GName L nm w2 (ptr n1) ∧ Keeps E.pb E.qb w w2 ∧ PS E w2 t1)
  have HXX := aK (HX.out w2 t1 hp)
  clear h1 hg hk hp
  go_wp2_with fail
  refine HXX.out.mono ?_
  rintro e w3 (⟨t2, h2, rfl, hk, hp⟩ | ⟨h2, ⟨g, rfl⟩, hk⟩)
  ·have hl3 : L ≤ w3.heap.size := by have a := HR1.out.2.2.1.size; have b := hk.size; omega
   have HVV := aK (HV.out w3 t2 hp hl3 (by have a := HM.out _ HR1.out.1; have b := HM2.out t1 t2 a.1 h2; have c := HLT.out; show mu E.s t2 < n; simp only at a; omega))
   have HR2 := aK (⟨h2, hk⟩ : _ ∧ Keeps E.pb E.qb w2 w3)
   clear h2 hk hp
   go_wp2_with fail
   refine HVV.out.mono ?_
   rintro e w4 (⟨y, t3, ty, x, h3, rfl, hg, hk, hp⟩ | ⟨h3, v, ⟨g, rfl⟩, hk⟩)
   ·have HR3 := aK (⟨h3, hg, hk, hp⟩ : _ ∧ GVal L n y w4 (.iface ty x) ∧ Keeps E.pb E.qb w3 w4 ∧ PS E w4 t3)
    have HLC := aK (loc_any E w4 t3 t.start L hp (by have := hk.size; omega))
    clear h3 hg hk hp
    go_wp2_with fail
    refine HLC.out.mono ?_
    rintro e w5 ⟨v, rfl, hg, ⟨a, rfl⟩, hb⟩
    have HB5 := aK hb
    have HGL := aK hg
    clear hb hg
    go_wp2_with fail
    refine (new_Argument w5.heap.size _ a (some ⟨n1, 0, none⟩) ty x _ (Blk.new _ _ _)).mono ?_
    rintro e w6 ⟨m, rfl, hn, ⟨s5, hb6⟩, hk6⟩
    have HB6 := aK hb6
    have HK6 := aK hk6
    clear hb6 hk6
    go_wp2_with fail
    have hbb := made_two HB5.out HK6.out
    have hb45 := made_below HK6.out
    have hLn : L ≤ m := by have h2 := HB5.out.size; have h3 := HR3.out.2.2.1.size; omega
    have hu24 : Up L w2 w4 := (Up.of_keeps HR2.out.2 hEL.1 hEL.2).trans (Up.of_keeps HR3.out.2.2.1 hEL.1 hEL.2)
    have hu46 : Up L w4 w6 := Up.of_below hbb
    have hmod : nPair (E.lx) 9 (nVal E.lx false n) t = some (nd 9 nm emp emp 0 [y], t3) := by unfold nPair; rw [HR1.out.1]; simp only [Option.bind_some]; rw [HR2.out.1]; simp only [Option.bind_some]; rw [HR3.out.1]; rfl
    refine bodyPost_ret (v := .tuple #[.iface 101 (.pointer (some ⟨m, 0, none⟩)), .nilIface]) (by simp [results, Tryz.results79, go_sem]) rfl (.inl ⟨_, t3, _, hmod, rfl, ⟨m, rfl, ⟨m, _, _, nm, y, _, rfl, .of_blk HB6.out hLn rfl (by decide), st_gloc HGL.out hb45, .of_blk HB6.out hLn rfl (by decide), st_name _ _ _ (hu24.trans hu46) HR1.out.2.1, .of_blk HB6.out hLn rfl (by decide), st_val n _ _ _ _ hu46 HR3.out.2.1, rfl⟩⟩, ((HR1.out.2.2.1.trans HR2.out.2).trans HR3.out.2.2.1).then hbb, HR3.out.2.2.2.below hbb⟩)
   ·have HR3 := aK (⟨h3, hk⟩ : _ ∧ Keeps E.pb E.qb w3 w4)
    clear h3 hk
    go_wp2_with fail
    go_ret2
    refine .inr ⟨?_, _, ⟨g, rfl⟩, (HR1.out.2.2.1.trans HR2.out.2).trans HR3.out.2⟩
    unfold nPair; rw [HR1.out.1]; simp only [Option.bind_some]; rw [HR2.out.1]; simp only [Option.bind_some]; rw [HR3.out.1]; rfl
  ·have HR2 := aK (⟨h2, hk⟩ : _ ∧ Keeps E.pb E.qb w2 w3)
   clear h2 hk
   go_wp2_with fail
   go_ret2
   refine .inr ⟨?_, _, ⟨g, rfl⟩, HR1.out.2.2.1.trans HR2.out.2⟩
   unfold nPair; rw [HR1.out.1]; simp only [Option.bind_some]; rw [HR2.out.1]; rfl
 ·have HR1 := aK (⟨h1, hk⟩ : _ ∧ Keeps E.pb E.qb w w2)
  clear h1 hk
  go_wp2_with fail
  go_ret2
  refine .inr ⟨?_, _, ⟨g, rfl⟩, HR1.out.2⟩
  unfold nPair; rw [HR1.out.1]; rfl
theorem arg_item (E : At) (hx : WtL.LxOk E.lx E.s) (L : Nat) (hEL : E.pb < L ∧ E.qb < L) (n : Nat) (hN : n ≤ 200000) : Item E L (nArg (E.lx) n) (IArg L n) 79 n := by
 have HL0 := fun L h => (lit_any E false hx n hN L h).1
 refine ⟨fun W t y t' hP hL hlt hf => ?_, fun W t hP hL hlt hf => ?_, fun t y t' h1 h2 => by have := (WtL.wt_arg hx n t _ h1 h2).2.1; unfold nu; unfold mu at this; simp only at this ⊢; omega⟩
 ·refine (arg_any E n HL0 L hEL W t hP hL hlt).mono ?_
  rintro e w' (⟨y2, t2, v, h1, h2, ⟨g, rfl, h3⟩, h4, h5⟩ | ⟨h1, _⟩)
  ·have h1 := hf.symm.trans h1
   obtain ⟨rfl, rfl⟩ := Prod.mk.inj (Option.some.inj h1)
   exact ⟨_, _, h2, ⟨g, rfl, h3⟩, h4, h5⟩
  ·have h1 := hf.symm.trans h1; cases h1
 ·refine (arg_any E n HL0 L hEL W t hP hL hlt).mono ?_
  rintro e w' (⟨y2, t2, v, h1, _⟩ | ⟨_, h2⟩)
  ·have h1 := hf.symm.trans h1; cases h1
  ·exact h2
theorem infoArg : (Tryz.prog.info? 101).map (fun i => (i.zero, i.size, i.bytes)) = some (some (.pointer none), 1, 8) := by kernel_rfl
theorem as_arg (v : Value) (w : World) : (Instr.typeAssert (.iface 101 v) 20 101 false).run Tryz.prog w = .ok v w := by kernel_rfl
theorem irow_args {L n : Nat} {zs : List NL} {w : World} {v : Value} (h : IRow (IArg L n) zs w v) : ∃ A m c, v = .slice A m c ∧ m ≤ c ∧ m ≤ 200000 ∧ zs.length = m ∧ ∃ b, ∃ gs : Nat → Nat, (0 < m → A = some ⟨b, 0, none⟩) ∧ ∀ i, i < m → ∃ z, zs[i]? = some z ∧ w.cell? ⟨b, i, none⟩ = some (.iface 101 (.pointer (some ⟨gs i, 0, none⟩))) ∧ GArg L n z w (ptr (gs i)) := by
 obtain ⟨A, m, c, rfl, hc, hm, hl, b, ys, hA, hys⟩ := irow_items h
 have h2 : ∀ i : Nat, ∃ g : Nat, i < m → ∃ z, zs[i]? = some z ∧ ys i = .iface 101 (.pointer (some ⟨g, 0, none⟩)) ∧ GArg L n z w (ptr g) := fun i => by
  by_cases hi : i < m
  ·obtain ⟨z, hz, _, _, g, h3, h4⟩ := hys i hi
   exact ⟨g, fun _ => ⟨z, hz, h3, h4⟩⟩
  ·exact ⟨0, fun h => absurd h hi⟩
 refine ⟨A, m, c, rfl, hc, hm, hl, b, fun i => Classical.choose (h2 i), hA, fun i hi => ?_⟩
 obtain ⟨z, hz, h3, h4⟩ := Classical.choose_spec (h2 i) hi
 obtain ⟨z', hz', h5, _⟩ := hys i hi
 exact ⟨z, hz, by rw [h5, h3], h4⟩
theorem args_any (E : At) (L : Nat) (hEL : E.pb < L ∧ E.qb < L) (n : Nat) (hN : n ≤ 200000) (w : World) (t : Tok) (hP : PS E w t) (hL : L ≤ w.heap.size) (hn : nu E.s t ≤ n) :
  Calls Tryz.prog 60 #[.pointer (some ⟨E.pb, 0, none⟩)] w (Res E w (nArgs (E.lx) n t) (GRow L (GArg L n))) := by
 by_cases hk4 : t.kind = 4
 ·obtain ⟨i0, hi, hz0, hz1, hz2⟩ := info_parts infoArg
  have HM := aK (show nArgs (E.lx) n t = nRev (E.lx) (nArg (E.lx) n) 4 5 true n t from if_pos hk4)
  have hP1 : PS E (w.alloc (.cells #[] 101)) t := hP.below (below_alloc (Below.refl _ _) _)
  have HK4 := aK (peek_any E _ t 4 hP1)
  have HV := aK (rev_fn 79 (.inr (.inr rfl)) E (w.alloc (.cells #[] 101)) t 4 5 true n L (nArg (E.lx) n) (IArg L n) hP1 (by simp; omega) hEL (arg_item E hP.src.ok.prog L hEL n hN) (fun _ => st_iarg) (by decide) hn hN)
  have HP0 := aK hP
  have hkb : (t.kind == 4) = true := by rw [hk4]; rfl
  clear hP hP1 hk4 hn
  generalize nRev (E.lx) (nArg (E.lx) n) 4 5 true n t = goal2 at *
  generalize nArgs (E.lx) n t = goal at *
  go_enter Tryz.func60, Tryz.ntmps60
  go_wp2_with fail
  refine HK4.out.mono ?_
  rintro e w1 ⟨rfl, rfl⟩
  go_wp2_with fail
  refine HV.out.mono ?_
  rintro e w2 (⟨zs, t', v, hr, rfl, hrow, hk, hp⟩ | ⟨hr, v, ⟨g, rfl⟩, hk⟩)
  ·obtain ⟨A, m, c, rfl, hmc, hm2, hzl, b, gs, hA, hys⟩ := irow_args hrow
   have HZL := aK hzl
   have HR := aK hr
   have HK := aK (((Keeps.refl E.pb E.qb w).alloc _).trans hk)
   have HP := aK hp
   have HYS := aK hys
   have HA := aK hA
   have hsz2 := HK.out.size
   have H8 := aK (own_keepK (p := E.pb) (q := E.qb) (own_empty w 101) hk (by have := ps_lt HP0.out; omega))
   have hg8 : w.heap.size < w2.heap.size := by have h := hk.size; simp at h; omega
   clear hr hk hp hys hrow hA hzl
   go_wp2_with fail
   go_loopw [4, 23] (fun v8 v31 wr => ∃ i : Nat, v31 = .int .i64 i ∧ i ≤ m ∧ ((i = 0 ∧ v8 = .slice (some ⟨w.heap.size, 0, none⟩) 0 0 ∧ wr = w2) ∨ (0 < i ∧ Aside0 (CopyInv w2 101 i (fun j => ptr (gs j)) v8 wr)))) (fun _ v31 _ => m - (intOf v31).toNat)
   case atStart => exact ⟨0, rfl, Nat.zero_le _, .inl ⟨rfl, rfl, rfl⟩⟩
   case round =>
    obtain ⟨i, rfl, him, hcase⟩ := hrel
    by_cases hlt : i < m
    ·have hlti : (i : Int) < (m : Int) := by omega
     obtain rfl := HA.out (by omega)
     obtain ⟨z, hz, hc0, hgy⟩ := HYS.out i hlt
     have hab := as_arg (.pointer (some ⟨gs i, 0, none⟩))
     clear hgy hz
     rcases hcase with ⟨rfl, rfl, rfl⟩ | ⟨hi0, HC⟩
     ·go_wp2_with (at_builtin; refine wpList_append_grows _ rfl _ _ 71 rfl 101 i0 (.pointer none) 1 8 Tryz.underlying71 hi hz0 hz1 hz2 rfl (by decide) (some ⟨w.heap.size, 0, none⟩) 0 0 [] rfl (fun h => by cases h) rfl (fun b hb j u hu => by cases hu) ⟨wr.heap.size, 0, none⟩ 1 1 [.pointer (some ⟨gs 0, 0, none⟩)] rfl rfl ?c1 ?c2 ?c3 ?c4 ?c5 ?_)
      case c2 => rfl
      case c4 => unfold maxLen; omega
      ·intro v' w4 hown' hgrow
       have HS := aK (show CopyInv wr 101 1 (fun j => ptr (gs j)) v' w4 from copy_first hown' hgrow)
       clear hown' hgrow
       go_wp2_with fail
       go_roundw
       case rel => exact ⟨1, by go_num, by omega, .inr ⟨by omega, HS⟩⟩
       case measure => simp [intOf]; omega
     ·have hown := HC.out.row
      have hc1 := (HC.out.below.cell (p := ⟨b, i, none⟩) (World.block_lt_of_cell? _ _ hc0)).trans hc0
      have hszr := HC.out.below.size
      have HO := aK hown
      clear hown hc0
      go_wp2_with (at_builtin; refine wpList_append_own _ rfl _ _ 71 rfl w2.heap.size 101 i0 (.pointer none) 1 8 Tryz.underlying71 hi hz0 hz1 hz2 rfl (by decide) _ _ _ rfl (HO.out.alloc _) ⟨wr.heap.size, 0, none⟩ 1 1 [.pointer (some ⟨gs i, 0, none⟩)] rfl rfl ?d1 ?d2 ?d3 ?d4 ?d5 ?_)
      case d2 => rfl
      case d3 => unfold maxLen; omega
      case d4 => omega
      case d5 => omega
      ·intro v' w4 hown' hgrow _
       have HS := aK (copy_step HC.out hown' hgrow)
       clear hown' hgrow
       go_wp2_with fail
       go_roundw
       case rel => exact ⟨i + 1, by go_num, by omega, .inr ⟨by omega, HS⟩⟩
       case measure => simp [intOf]; omega
    ·obtain rfl : i = m := by omega
     have hge : ¬ (i : Int) < (i : Int) := by omega
     have HS : Aside0 (∃ xs, ∃ base, L ≤ base ∧ wr.ownsRow base 101 1 u4 i xs ∧ Both (fun z x => GArg L n z wr x) zs xs ∧ Below w2.heap.size w2 wr) := ⟨by
      rcases hcase with ⟨rfl, rfl, rfl⟩ | ⟨hi0, HC⟩
      ·obtain rfl := List.eq_nil_of_length_eq_zero HZL.out
       exact ⟨[], w.heap.size, hL, H8.out, trivial, Below.refl _ _⟩
      ·refine ⟨_, w2.heap.size, by omega, HC.out.row, ?_, HC.out.below⟩
       rw [← HZL.out]
       refine both_range fun j z hj => ?_
       have hjm : j < i := by rw [← HZL.out]; exact (List.getElem?_eq_some_iff.1 hj).1
       obtain ⟨z', hz', _, hg'⟩ := HYS.out j hjm
       rw [hj] at hz'
       obtain rfl := Option.some.inj hz'
       exact st_arg _ _ _ (Up.of_below HC.out.below) hg'⟩
     clear hcase
     go_wp2_with fail
     go_ret2
     obtain ⟨xs, base, hLb, hown, hgx, hbw⟩ := HS.out
     exact .inl ⟨zs, t', _, HM.out.trans HR.out, rfl, grow_of (P := GArg L n) hown hLb (by decide) hgx, HK.out.then hbw, HP.out.below hbw⟩
  ·have HR := aK hr
   have HK := aK (((Keeps.refl E.pb E.qb w).alloc _).trans hk)
   clear hr hk
   go_wp2_with fail
   go_ret2
   exact .inr ⟨HM.out.trans HR.out, _, ⟨g, rfl⟩, HK.out⟩
 ·have hM : nArgs (E.lx) n t = some ([], t) := by
   unfold nArgs
   rw [if_neg hk4]
  have HM := aK hM
  have hP1 : PS E (w.alloc (.cells #[] 101)) t := hP.below (below_alloc (Below.refl _ _) _)
  have HK4 := aK (peek_any E _ t 4 hP1)
  have HP1 := aK hP1
  have hkb : (t.kind == 4) = false := beq_eq_false_iff_ne.2 hk4
  clear hP hP1 hM hk4 hn
  go_enter Tryz.func60, Tryz.ntmps60
  go_wp2_with fail
  refine HK4.out.mono ?_
  rintro e w1 ⟨rfl, rfl⟩
  go_wp2_with fail
  go_ret2
  exact .inl ⟨[], t, _, HM.out, rfl, grow_of (P := GArg L n) (own_empty w 101) hL (by decide) trivial, (Keeps.refl E.pb E.qb w).alloc _, HP1.out⟩
def IDir (L n : Nat) (y : NL) (w : World) (v : Value) : Prop := ∃ g, v = .pointer (some ⟨g, 0, none⟩) ∧ GDir L n y w (ptr g)
theorem s2_idir {L n : Nat} {y : NL} : Stable2 L (IDir L n y) := fun w w' v hu ⟨g, h, h2⟩ => ⟨g, h, s2_dir _ _ _ hu h2⟩
theorem dir_any (E : At) (L : Nat) (hEL : E.pb < L ∧ E.qb < L) (n : Nat) (hN : n ≤ 200000) (w : World) (t : Tok) (hP : PS E w t) (hL : L ≤ w.heap.size) (hlt : nu E.s t ≤ n) :
  Calls Tryz.prog 41 #[.pointer (some ⟨E.pb, 0, none⟩)] w (Res E w (nDir (E.lx) n t) (IDir L n)) := by
 have HX := aK (expect_any E w t 9 hP)
 have HN := aK (fun W t1 (h : PS E W t1) hl => name_any E W t1 L h hl)
 have HV := aK (args_any E L hEL n hN)
 have HM : Aside0 (∀ t1, mTok (E.lx) 9 t = some t1 → t1.stop ≤ E.s.size ∧ mu E.s t1 + 1 ≤ mu E.s t) := ⟨fun t1 h => WtL.prg_tok hP.src.ok.prog (by decide) t t1 hP.le h⟩
 have HM2 : Aside0 (∀ t1 x, t1.stop ≤ E.s.size → nName (E.lx) t1 = some x → x.2.stop ≤ E.s.size ∧ mu E.s x.2 + 1 ≤ mu E.s t1) := ⟨fun t1 x h1 h2 => ⟨(WtL.wt_name hP.src.ok.prog t1 x h1 h2).1, (WtL.wt_name hP.src.ok.prog t1 x h1 h2).2.1⟩⟩
 have HLT := aK (show mu E.s t ≤ n from hlt)
 obtain ⟨c1, c2, c3, c4, c5, c6, c7, c8⟩ := ps_cells hP
 clear hP hlt c1 c2 c3 c4 c5 c7 c8
 go_enter Tryz.func41, Tryz.ntmps41
 go_wp2_with fail
 refine HX.out.mono ?_
 rintro e w2 (⟨t1, h1, rfl, hk, hp⟩ | ⟨h1, ⟨g, rfl⟩, hk⟩)
 ·have HR1 := aK (⟨h1, hk⟩ : _ ∧ Keeps E.pb E.qb w w2)
  have HNN := aK (HN.out w2 t1 hp (by have := hk.size; omega))
  clear h1 hk hp
  go_wp2_with fail
  refine HNN.out.mono ?_
  rintro e w3 (⟨nm, t2, v, h2, rfl, ⟨n1, rfl, hg⟩, hk, hp⟩ | ⟨h2, v, ⟨g, rfl⟩, hk⟩)
  ·have hl3 : L ≤ w3.heap.size := by have a := HR1.out.2.size; have b := hk.size; omega
   have HVV := aK (HV.out w3 t2 hp hl3 (by have a := HM.out t1 HR1.out.1; have b := HM2.out t1 _ a.1 h2; have c := HLT.out; show mu E.s t2 ≤ n; simp only at b; omega))
   have HR2 := aK (⟨h2, hk, hg⟩ : _ ∧ Keeps E.pb E.qb w2 w3 ∧ GName L nm w3 (ptr n1))
   clear h2 hk hp hg
   go_wp2_with fail
   refine HVV.out.mono ?_
   rintro e w4 (⟨zs, t3, x, h3, rfl, hg, hk, hp⟩ | ⟨h3, v, ⟨g, rfl⟩, hk⟩)
   ·obtain ⟨A, c, rfl⟩ := grow_shape hg
    have HR3 := aK (⟨h3, hg, hk, hp⟩ : _ ∧ GRow L (GArg L n) zs w4 (.slice A zs.length c) ∧ Keeps E.pb E.qb w3 w4 ∧ PS E w4 t3)
    have HLC := aK (loc_any E w4 t3 t.start L hp (by have := hk.size; omega))
    clear h3 hg hk hp
    go_wp2_with fail
    refine HLC.out.mono ?_
    rintro e w5 ⟨v, rfl, hg, ⟨a, rfl⟩, hb⟩
    have HB5 := aK hb
    have HGL := aK hg
    clear hb hg
    go_wp2_with fail
    refine (new_Directive w5.heap.size _ a (some ⟨n1, 0, none⟩) A zs.length c _ (Blk.new _ _ _)).mono ?_
    rintro e w6 ⟨d, rfl, hn, ⟨s5, hb6⟩, hk6⟩
    have HB6 := aK hb6
    have HK6 := aK hk6
    clear hb6 hk6
    go_wp2_with fail
    have hbb := made_two HB5.out HK6.out
    have hb45 := made_below HK6.out
    have hLn : L ≤ d := by have h2 := HB5.out.size; have h3 := HR3.out.2.2.1.size; omega
    have hu34 : Up L w3 w4 := Up.of_keeps HR3.out.2.2.1 hEL.1 hEL.2
    have hu46 : Up L w4 w6 := Up.of_below hbb
    have hmod : nDir (E.lx) n t = some (nd 10 nm emp emp 0 zs, t3) := by unfold nDir; rw [HR1.out.1]; simp only [Option.bind_some]; rw [HR2.out.1]; simp only [Option.bind_some]; rw [HR3.out.1]; rfl
    refine bodyPost_ret (v := .tuple #[.pointer (some ⟨d, 0, none⟩), .nilIface]) (by simp [results, Tryz.results41, go_sem]) rfl (.inl ⟨_, t3, _, hmod, rfl, ⟨d, rfl, d, _, _, nm, zs, _, rfl, .of_blk HB6.out hLn rfl (by decide), st_gloc HGL.out hb45, .of_blk HB6.out hLn rfl (by decide), st_name _ _ _ (hu34.trans hu46) HR2.out.2.2, .of_blk HB6.out hLn rfl (by decide), st_row (fun _ => s2_arg) _ _ _ hu46 HR3.out.2.1, rfl⟩, ((HR1.out.2.trans HR2.out.2.1).trans HR3.out.2.2.1).then hbb, HR3.out.2.2.2.below hbb⟩)
   ·have HR3 := aK (⟨h3, hk⟩ : _ ∧ Keeps E.pb E.qb w3 w4)
    clear h3 hk
    go_wp2_with fail
    go_ret2
    refine .inr ⟨?_, _, ⟨g, rfl⟩, (HR1.out.2.trans HR2.out.2.1).trans HR3.out.2⟩
    unfold nDir; rw [HR1.out.1]; simp only [Option.bind_some]; rw [HR2.out.1]; simp only [Option.bind_some]; rw [HR3.out.1]; rfl
  ·have HR2 := aK (⟨h2, hk⟩ : _ ∧ Keeps E.pb E.qb w2 w3)
   clear h2 hk
   go_wp2_with fail
   go_ret2
   refine .inr ⟨?_, _, ⟨g, rfl⟩, HR1.out.2.trans HR2.out.2⟩
   unfold nDir; rw [HR1.out.1]; simp only [Option.bind_some]; rw [HR2.out.1]; rfl
 ·have HR1 := aK (⟨h1, hk⟩ : _ ∧ Keeps E.pb E.qb w w2)
  clear h1 hk
  go_wp2_with fail
  go_ret2
  refine .inr ⟨?_, _, ⟨g, rfl⟩, HR1.out.2⟩
  unfold nDir; rw [HR1.out.1]; rfl
theorem infoDir : (Tryz.prog.info? 67).map (fun i => (i.zero, i.size, i.bytes)) = some (some (.pointer none), 1, 8) := by kernel_rfl
structure DirInv (E : At) (L n : Nat) (w : World) (goal : Option (List NL × Tok)) (N k i : Nat) (ys : List NL) (tk : Tok) (v : Value) (wr : World) : Prop where
 ps : PS E wr tk
 fuel : nu E.s tk < k
 row : ∃ xs, wr.ownsRow w.heap.size 67 1 v i xs ∧ Both (fun y x => IDir L n y wr x) ys xs
 len : ys.length = i
 goal : (nDirs (E.lx) n k tk).map (fun x => (ys ++ x.1, x.2)) = goal
 few : i + k ≤ N
 keep : Keeps E.pb E.qb w wr
theorem dir_step {E : At} {L n : Nat} {w wr w2 w3 : World} {goal : Option (List NL × Tok)} {N k i : Nat} {ys : List NL} {y : NL} {tk t2 t0 : Tok} {v v' : Value} {xs : List Value} {g : Nat} {o : Obj} (h : DirInv E L n w goal N (k + 1) i ys tk v wr) (hk9 : tk.kind = 9) (hf : nDir (E.lx) n tk = some (y, t2)) (h0 : PS E w t0) (hk2 : Keeps E.pb E.qb wr w2) (hp2 : PS E w2 t2) (hx : IDir L n y w2 (.pointer (some ⟨g, 0, none⟩)))
  (hown : w2.ownsRow w.heap.size 67 1 v i xs) (hxs : Both (fun y x => IDir L n y w2 x) ys xs) (hown' : w3.ownsRow w.heap.size 67 1 v' (i + 1) (xs ++ [.pointer (some ⟨g, 0, none⟩)])) (hgrow : (w2.alloc o).grownBy w3 v.ownBlock) :
  DirInv E L n w goal N k (i + 1) (ys ++ [y]) t2 v' w3 := by
 have hsz2 : w.heap.size ≤ w2.heap.size := Nat.le_trans h.keep.size hk2.size
 have hrow : ∀ g, v.ownBlock = some g → w.heap.size ≤ g ∧ ∃ cs fr, (w2.alloc o).heap[g]? = some (.cells cs 67 fr) := by
  intro g hg
  rcases hown.2 with ⟨rfl, _⟩ | ⟨g', cap, cur, rfl, hb, hh, _⟩
  ·cases hg
  ·have : g' = g := by simpa [Value.ownBlock] using hg
   subst this
   have hlt : g' < w2.heap.size := by
    rcases Nat.lt_or_ge g' w2.heap.size with h1 | h1
    ·exact h1
    ·rw [Array.getElem?_eq_none h1] at hh; cases hh
   exact ⟨hb, cur, (0, 0), (Below.heap_alloc w2 o g' hlt).trans hh⟩
 have hu : Up2 L w2 w3 := (Up.of_below ((Below.refl _ _).alloc (Nat.le_refl _) o)).two.trans (Up2.of_grown hgrow fun g hg => (hrow g hg).2)
 have hb3 : Below w.heap.size w2 w3 := ((Below.refl w.heap.size w2).alloc hsz2 o).grown hgrow (by simp; omega) (fun g hg => (hrow g hg).1)
 refine ⟨ps_end h0 hp2 hb3, ?_, ⟨_, hown', ?_⟩, by rw [List.length_append, h.len]; rfl, ?_, by have := h.few; omega, keeps_new (h.keep.trans hk2) hb3⟩
 ·have h1 := (WtL.wt_dir h.ps.src.ok.prog n tk _ h.ps.le hf).2.1
  have h2 : mu E.s tk < k + 1 := h.fuel
  show mu E.s t2 < k
  simp only at h1
  omega
 ·exact both_snoc (s2_idir _ _ _ hu hx) (both_mono (fun y v hh => s2_idir _ _ _ hu hh) hxs)
 ·have h1 := h.goal
  unfold nDirs at h1
  rw [if_pos hk9, hf] at h1
  rw [← h1]
  simp only [Option.bind_some, Option.map_map]
  congr 1
  funext z
  simp
theorem dirs_any (E : At) (L : Nat) (hEL : E.pb < L ∧ E.qb < L) (n : Nat) (hN : n ≤ 200000) (w : World) (t : Tok) (hP : PS E w t) (hL : L ≤ w.heap.size) (hlt : nu E.s t < n) :
  Calls Tryz.prog 20 #[.pointer (some ⟨E.pb, 0, none⟩)] w (Res E w (nDirs (E.lx) n n t) (GRowD L (GDir L n))) := by
 obtain ⟨i0, hi, hz0, hz1, hz2⟩ := info_parts infoDir
 have HD := aK (dir_any E L hEL n hN)
 have HP := aK hP
 have HS := aK (show DirInv E L n w (nDirs (E.lx) n n t) n n 0 [] t (.slice (some ⟨w.heap.size, 0, none⟩) 0 0) (w.alloc (.cells #[] 67)) from
  ⟨hP.below (below_alloc (Below.refl _ _) _), hlt, ⟨[], own_empty w _, trivial⟩, rfl, by simp, by omega, (Keeps.refl E.pb E.qb w).alloc _⟩)
 generalize nDirs (E.lx) n n t = goal at *
 clear hP hlt
 go_enter Tryz.func20, Tryz.ntmps20
 go_wp2_with fail
 go_loopg [4] n (fun k v4 wr => ∃ i ys tk, Aside0 (DirInv E L n w goal n k i ys tk v4 wr))
 case atStart => exact ⟨0, [], t, HS⟩
 case round =>
  obtain ⟨i, ys, tk, HV⟩ := hrel
  obtain ⟨k, rfl⟩ : ∃ k, gk = k + 1 := ⟨gk - 1, by have := HV.out.fuel; omega⟩
  have hvs : (u4 = .slice none 0 0 ∧ i = 0) ∨ ∃ g cap, u4 = .slice (some ⟨g, 0, none⟩) i cap := by
   obtain ⟨xs, h2, _⟩ := HV.out.row
   rcases h2.2 with h3 | ⟨g, cap, cur, h3, _⟩
   ·exact .inl h3
   ·exact .inr ⟨g, cap, h3⟩
  have HPK := aK (peek_any E wr tk 9 HV.out.ps)
  by_cases hk9 : tk.kind = 9
  ·have hkb : (tk.kind == 9) = true := by rw [hk9]; rfl
   have HDD := aK (HD.out wr tk HV.out.ps (by have := HV.out.keep.size; omega) (by have h2 := HV.out.fuel; have h3 := HV.out.few; omega))
   have hg := HV.out.goal
   have hgoal : nDir (E.lx) n tk = none → goal = none := fun hz => by
    rw [← hg]
    unfold nDirs
    rw [if_pos hk9, hz]
    rfl
   have HG := aK hgoal
   have HK9 := aK hk9
   have hfew := HV.out.few
   have hszr := HV.out.keep.size
   clear hk9 hg hgoal
   go_wp2_with fail
   refine HPK.out.mono ?_
   rintro e w1 ⟨rfl, rfl⟩
   go_wp2_with fail
   refine HDD.out.mono ?_
   rintro e w3 (⟨y2, t2, v, h1, rfl, hgx, hk, hp3⟩ | ⟨h1, v, ⟨g, rfl⟩, hk⟩)
   ·obtain ⟨xs, hown0, hxs0⟩ := HV.out.row
    have hown := own_keepK hown0 hk (ps_lt HP.out)
    have hxs : Both (fun y x => IDir L n y w3 x) ys xs := both_mono (fun y v hh => s2_idir _ _ _ (Up.of_keeps hk hEL.1 hEL.2).two hh) hxs0
    have hgx0 := hgx
    obtain ⟨gd, rfl, _⟩ := hgx
    have hsz3 := hk.size
    have HST := aK (fun (o : Obj) v' w4 hown' hgrow => dir_step (o := o) (v' := v') (w3 := w4) HV.out HK9.out h1 HP.out hk hp3 hgx0 hown hxs hown' hgrow)
    have HO := aK hown
    clear h1 hgx0 hk hp3 hown0 hxs0 hown hxs
    go_wp2_with (at_builtin; refine wpList_append_own _ rfl _ _ 30 rfl w.heap.size 67 i0 (.pointer none) 1 8 Tryz.underlying30 hi hz0 hz1 hz2 rfl (by decide) _ _ _ rfl (HO.out.alloc _) ⟨w3.heap.size, 0, none⟩ 1 1 [.pointer (some ⟨gd, 0, none⟩)] rfl rfl ?c1 ?c2 ?c3 ?c4 ?c5 ?_)
    case c1 =>
     intro j u hj
     match j, hj with
     | 0, hj => simp at hj; subst hj; simp [Addr.add]
    case c2 => intro u hu; simp at hu; subst hu; rfl
    case c3 => unfold maxLen; omega
    case c4 => omega
    case c5 => simp; omega
    ·intro v' w4 hown' hgrow _
     have HR4 := aK (HST.out _ v' w4 hown' hgrow)
     clear hown' hgrow
     go_wp2_with fail
     go_roundg k
     case rel => exact ⟨i + 1, ys ++ [y2], t2, HR4⟩
     case measure => omega
   ·have HR := aK (⟨h1, hk⟩ : _ ∧ Keeps E.pb E.qb wr w3)
    clear h1 hk
    go_wp2_with fail
    go_ret2
    exact .inr ⟨HG.out HR.out.1, _, ⟨g, rfl⟩, HV.out.keep.trans HR.out.2⟩
  ·have hkb : (tk.kind == 9) = false := beq_eq_false_iff_ne.2 hk9
   have hg := HV.out.goal
   have hgoal : goal = some (ys, tk) := by
    rw [← hg]
    unfold nDirs
    rw [if_neg hk9]
    simp
   have HG := aK hgoal
   clear hk9 hg hgoal
   go_wp2_with fail
   refine HPK.out.mono ?_
   rintro e w1 ⟨rfl, rfl⟩
   go_wp2_with fail
   go_ret2
   obtain ⟨xs, hown, hgx⟩ := HV.out.row
   refine .inl ⟨ys, tk, _, HG.out, rfl, growD_of (P := GDir L n) hown hL (by decide) (both_mono (fun y x hh => ?_) hgx), HV.out.keep, HV.out.ps⟩
   obtain ⟨g, rfl, h⟩ := hh
   exact h
end Go.Proofs.YtjoagdldbmlenaaGreatDoor.Par
