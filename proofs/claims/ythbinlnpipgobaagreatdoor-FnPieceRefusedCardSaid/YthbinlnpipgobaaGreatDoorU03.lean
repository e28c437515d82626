import Derived.Test.YthbinlnpipgobaaGreatDoorU02
import Derived.Deep.DeepCutAuto
namespace Go.Proofs.YthbinlnpipgobaaGreatDoor.Lx
set_option linter.unusedVariables false
set_option linter.unusedSimpArgs false
open Go.RowKit Go.Proofs.YthbinlnpipgobaaGreatDoorW.PrintWords Go.Proofs.YthbinlnpipgobaaGreatDoor.Keep Go.Proofs.YthbinlnpipgobaaGreatDoor.Mod Go.Proofs.YthbinlnpipgobaaGreatDoor.Sim Go.Proofs.YthbinlnpipgobaaGreatDoor.Four Go.Proofs.YthbinlnpipgobaaGreatDoor.Step Go.Proofs.YthbinlnpipgobaaGreatDoor.Env Go.Proofs.YthbinlnpipgobaaGreatDoor.Err

abbrev tokV (t : Tok) : Value := .agg #[.int .i64 t.kind, .int .i64 t.start, .int .i64 t.stop, .string t.value]
abbrev zeroT : Value := .agg #[.int .i64 0, .int .i64 0, .int .i64 0, .string ⟨#[]⟩]
/-- A token, or an error. -/
def TokRes (r : Option Tok) (w : World) (e : Ending) (w' : World) : Prop := Below w.heap.size w w' ∧ ((∃ t, r = some t ∧ e = .returned (.tuple #[tokV t, .nilIface])) ∨ (r = none ∧ ∃ g, e = .returned (.tuple #[zeroT, errV g])))

set_option maxRecDepth 100000 in
set_option maxHeartbeats 4000000 in
theorem num_any (sb bb q cap : Nat) (s : ByteArray) (w : World) (hb : BodyAt w bb s) (hcap : s.size ≤ cap) (hpl : Plain s) (hs : s.size ≤ 100000) (h0 : w.cell? ⟨sb, 0, none⟩ = some (.slice (some ⟨bb, 0, none⟩) s.size cap)) (hq : q < s.size) :
    Calls Tryz.prog 71 #[.pointer (some ⟨sb, 0, none⟩), .int .i64 q, .int .i32 (bt s q), .int .i64 1] w fun e w' => TokRes (mNum s q) w e w' := by
  have hsb : sb < w.heap.size := World.block_lt_of_cell? w _ h0
  have hBW : Below w.heap.size w (w.alloc (.cells #[.int .i64 0, .int .i64 0, .int .i64 0, .string ⟨#[]⟩] 68)) := below_alloc (Below.refl _ _) _
  have HBW := Aside0.mk hBW
  have hbW := hb.below hBW
  have h0W := pw_cell_below hBW h0
  have HR := Aside0.mk (fun k => rune_plain bb k cap s _ hbW hcap hpl)
  have HY := Aside0.mk (fun p r => dig_yes sb bb p r cap s _ hbW hcap hpl hs h0W)
  have HN := Aside0.mk (fun p => dig_no sb bb p cap s _ hbW hcap hpl hs h0W)
  have HE := Aside0.mk (fun msg pos => syntaxError_any sb bb cap pos s msg _ hbW h0W (by omega) hcap)
  have HBB := Aside0.mk hbW
  have HP := Aside0.mk hpl
  have hM : mNum s q = (mInt s (if bt s q = 45 then q + 1 else q)).bind fun p1 => (mFrac s p1).bind fun x => (mExp s x.2).map fun y => ⟨if x.1 || y.1 then 17 else 16, q, y.2, s.extract q y.2⟩ := rfl
  have HM := Aside0.mk hM
  clear hb hpl hbW hBW hM h0W
  obtain ⟨p0, hp0⟩ : ∃ p0, p0 = (if bt s q = 45 then q + 1 else q) := ⟨_, rfl⟩
  have HP0 := Aside0.mk hp0
  clear hp0
  go_enter Tryz.func71, Tryz.ntmps71
  go_upto_if 29 with fail
  go_cut [3, 10, 12] (fun n x i wx => wx = w.alloc (.cells #[.int .i64 0, .int .i64 0, .int .i64 0, .string ⟨#[]⟩] 68) ∧ n = .int .i64 (runeP s p0).2 ∧ x = .int .i32 (runeP s p0).1 ∧ i = .int .i64 p0)
  case first =>
    by_cases h45 : bt s q = 45
    · have e0 : p0 = q + 1 := by rw [HP0.out, if_pos h45]
      have h45b : (bt s q == 45) = true := by rw [h45]; rfl
      have hr := HR.out (q + 1) (by omega)
      clear h45
      have E0 := Aside0.mk e0
      clear e0
      go_wp2_with fail
      refine hr.mono ?_
      rintro e w' ⟨rfl, rfl⟩
      go_wp2_with fail
      go_meet
      case rel => rw [E0.out]; exact ⟨rfl, rfl, rfl, by go_num⟩
    · have e0 : p0 = q := by rw [HP0.out, if_neg h45]
      have hrq := runeP_lt hq
      have E0 := Aside0.mk e0
      have R0 := Aside0.mk hrq
      clear e0 hrq
      have h45b : (bt s q == 45) = false := beq_eq_false_iff_ne.2 h45
      go_wp2_with fail
      go_meet
      case rel => rw [E0.out, R0.out]; exact ⟨rfl, rfl, rfl, rfl⟩
  case rest =>
    obtain ⟨rfl, rfl, rfl, rfl⟩ := hcut
    go_upto_if 40 with fail
    go_cut [3, 10, 12] (fun n x i wx => wx = w.alloc (.cells #[.int .i64 0, .int .i64 0, .int .i64 0, .string ⟨#[]⟩] 68) ∧ ∃ p1, mInt s p0 = some p1 ∧ n = .int .i64 (runeP s p1).2 ∧ x = .int .i32 (runeP s p1).1 ∧ i = .int .i64 p1)
    case first =>
      by_cases h48 : bt s p0 = 48
      · have hp0s : p0 < s.size := by
          rcases Nat.lt_or_ge p0 s.size with h | h
          · exact h
          · rw [bt_out s p0 h] at h48; cases h48
        have hrp := runeP_lt hp0s
        have hr1 : (runeP s p0).1 = 48 := by rw [hrp]; exact h48
        have hr2 : (runeP s p0).2 = 1 := by rw [hrp]
        rw [hr1, hr2]
        clear hr1 hr2
        have hr := HR.out (p0 + 1) (by omega)
        by_cases hd : isDig (bt s (p0 + 1 : Nat)) = true
        · have H0 := Aside0.mk (show mNum s q = none by rw [HM.out, ← HP0.out]; unfold mInt; rw [if_pos h48, if_pos hd]; rfl)
          have hd2 := isDig_iff.1 (runeP_dig.trans hd)
          clear hd hrp h48
          generalize (runeP s (p0 + 1)).1 = x1 at *
          generalize (runeP s (p0 + 1)).2 = n1 at *
          go_wp2_with fail
          refine hr.mono ?_
          rintro e w' ⟨rfl, rfl⟩
          go_wp2_with fail
          refine (HE.out _ _).mono ?_
          rintro e w2 ⟨g2, rfl, hb2⟩
          obtain ⟨r0, r1, r2, r3⟩ := four_kept1 hb2
          have hz0 := frozen_kept1 hb2 0
          have hz1 := frozen_kept1 hb2 1
          have hz2 := frozen_kept1 hb2 2
          have hz3 := frozen_kept1 hb2 3
          have HB2 := Aside0.mk (below_one hb2)
          clear hb2
          go_wp2_with fail
          refine bodyPost_ret (v := .tuple #[.agg #[.int .i64 0, .int .i64 0, .int .i64 0, .string ⟨#[]⟩], errV g2]) (by simp [results, Tryz.results71, go_sem, r0, r1, r2, r3, errV]) rfl ⟨below_four HB2.out, .inr ⟨H0.out, g2, rfl⟩⟩
        · have H1 := Aside0.mk (show mInt s p0 = some (p0 + 1) by unfold mInt; rw [if_pos h48, if_neg hd])
          have hd2 : ¬ (48 ≤ (runeP s (p0 + 1)).1 ∧ (runeP s (p0 + 1)).1 ≤ 57) := fun h => hd (runeP_dig.symm.trans (isDig_iff.2 h))
          have HX : Aside0 (∃ x n : Int, (runeP s (p0 + 1)).1 = x ∧ (runeP s (p0 + 1)).2 = n) := ⟨_, _, rfl, rfl⟩
          obtain ⟨x1, n1, hx1, hn1⟩ := HX.out
          have HX1 := Aside0.mk hx1
          have HN1 := Aside0.mk hn1
          rw [hx1, hn1] at hr
          rw [hx1] at hd2
          clear hd hrp h48 hx1 hn1 HX
          have hway : x1 < 48 ∨ 57 < x1 := by omega
          clear hd2
          rcases hway with g | g
          all_goals
            go_wp2_with fail
            refine hr.mono ?_
            rintro e w' ⟨rfl, rfl⟩
            go_wp2_with fail
            go_meet
            case rel => exact ⟨rfl, p0 + 1, H1.out, by rw [HN1.out], by rw [HX1.out], by go_num⟩
      · have h48r : (runeP s p0).1 ≠ 48 := fun h => h48 ((runeP_fst 48 (by decide)).1 h)
        have h48b : ((runeP s p0).1 == 48) = false := beq_eq_false_iff_ne.2 h48r
        cases hx : mDig s p0 with
        | none =>
          have H0 := Aside0.mk (show mNum s q = none by rw [HM.out, ← HP0.out]; unfold mInt; rw [if_neg h48, hx]; rfl)
          have hy := HN.out p0 hx
          clear hx h48 h48r
          generalize (runeP s p0).1 = x1 at *
          generalize (runeP s p0).2 = n1 at *
          go_wp2_with fail
          refine (hy).mono ?_
          rintro e w2 ⟨⟨x9, g2, rfl⟩, hb2⟩
          obtain ⟨r0, r1, r2, r3⟩ := four_kept1 hb2
          have hz0 := frozen_kept1 hb2 0
          have hz1 := frozen_kept1 hb2 1
          have hz2 := frozen_kept1 hb2 2
          have hz3 := frozen_kept1 hb2 3
          have HB2 := Aside0.mk (below_one hb2)
          clear hb2
          go_wp2_with fail
          refine bodyPost_ret (v := .tuple #[.agg #[.int .i64 0, .int .i64 0, .int .i64 0, .string ⟨#[]⟩], errV g2]) (by simp [results, Tryz.results71, go_sem, r0, r1, r2, r3, errV]) rfl ⟨below_four HB2.out, .inr ⟨H0.out, g2, rfl⟩⟩
        | some p1 =>
          have H1 := Aside0.mk (show mInt s p0 = some p1 by unfold mInt; rw [if_neg h48, hx])
          have hy := HY.out p0 p1 hx
          have hr := HR.out p1 (by have := dig_prog hx; omega)
          clear hx h48 h48r
          generalize (runeP s p0).1 = x1 at *
          generalize (runeP s p0).2 = n1 at *
          go_wp2_with fail
          refine hy.mono ?_
          rintro e w' ⟨rfl, rfl⟩
          go_wp2_with fail
          refine hr.mono ?_
          rintro e w' ⟨rfl, rfl⟩
          go_wp2_with fail
          go_meet
          case rel => exact ⟨rfl, p1, H1.out, rfl, rfl, rfl⟩
    case rest =>
      obtain ⟨rfl, p1, h1, rfl, rfl, rfl⟩ := hcut
      have HI := Aside0.mk h1
      clear h1
      go_upto_if 82 with fail
      go_cut [3, 10, 12, 13] (fun n x i b wx => wx = w.alloc (.cells #[.int .i64 0, .int .i64 0, .int .i64 0, .string ⟨#[]⟩] 68) ∧ ∃ y, mFrac s p1 = some y ∧ n = .int .i64 (runeP s y.2).2 ∧ x = .int .i32 (runeP s y.2).1 ∧ i = .int .i64 y.2 ∧ b = .bool y.1)
      case first =>
        by_cases h46 : bt s p1 = 46
        · have hp1s : p1 < s.size := by
            rcases Nat.lt_or_ge p1 s.size with h | h
            · exact h
            · rw [bt_out s p1 h] at h46; cases h46
          have hrp := runeP_lt hp1s
          have hr1 : (runeP s p1).1 = 46 := by rw [hrp]; exact h46
          have hr2 : (runeP s p1).2 = 1 := by rw [hrp]
          rw [hr1, hr2]
          clear hr1 hr2 hrp
          have hr := HR.out (p1 + 1) (by omega)
          cases hx : mDig s (p1 + 1) with
          | none =>
            have H0 := Aside0.mk (show mNum s q = none by rw [HM.out, ← HP0.out, HI.out]; simp only [Option.bind_some]; unfold mFrac; rw [if_pos h46, hx]; rfl)
            have hy := HN.out (p1 + 1) hx
            clear hx h46
            go_wp2_with fail
            refine hr.mono ?_
            rintro e w' ⟨rfl, rfl⟩
            generalize (runeP s (p1 + 1)).1 = x1 at *
            generalize (runeP s (p1 + 1)).2 = n1 at *
            go_wp2_with fail
            refine (hy).mono ?_
            rintro e w2 ⟨⟨x9, g2, rfl⟩, hb2⟩
            obtain ⟨r0, r1, r2, r3⟩ := four_kept1 hb2
            have hz0 := frozen_kept1 hb2 0
            have hz1 := frozen_kept1 hb2 1
            have hz2 := frozen_kept1 hb2 2
            have hz3 := frozen_kept1 hb2 3
            have HB2 := Aside0.mk (below_one hb2)
            clear hb2
            go_wp2_with fail
            refine bodyPost_ret (v := .tuple #[.agg #[.int .i64 0, .int .i64 0, .int .i64 0, .string ⟨#[]⟩], errV g2]) (by simp [results, Tryz.results71, go_sem, r0, r1, r2, r3, errV]) rfl ⟨below_four HB2.out, .inr ⟨H0.out, g2, rfl⟩⟩
          | some p2 =>
            have H1 := Aside0.mk (show mFrac s p1 = some (true, p2) by unfold mFrac; rw [if_pos h46, hx]; rfl)
            have hy := HY.out (p1 + 1) p2 hx
            have hr3 := HR.out p2 (by have := dig_prog hx; omega)
            clear hx h46
            go_wp2_with fail
            refine hr.mono ?_
            rintro e w' ⟨rfl, rfl⟩
            generalize (runeP s (p1 + 1)).1 = x1 at *
            generalize (runeP s (p1 + 1)).2 = n1 at *
            go_wp2_with fail
            refine hy.mono ?_
            rintro e w' ⟨rfl, rfl⟩
            go_wp2_with fail
            refine hr3.mono ?_
            rintro e w' ⟨rfl, rfl⟩
            go_wp2_with fail
            go_meet
            case rel => exact ⟨rfl, (true, p2), H1.out, rfl, rfl, rfl, rfl⟩
        · have h46r : (runeP s p1).1 ≠ 46 := fun h => h46 ((runeP_fst 46 (by decide)).1 h)
          have h46b : ((runeP s p1).1 == 46) = false := beq_eq_false_iff_ne.2 h46r
          have H1 := Aside0.mk (show mFrac s p1 = some (false, p1) by unfold mFrac; rw [if_neg h46])
          clear h46 h46r
          go_wp2_with fail
          go_meet
          case rel => exact ⟨rfl, (false, p1), H1.out, rfl, rfl, rfl, rfl⟩
      case rest =>
        obtain ⟨rfl, ⟨fl, p2⟩, h2, rfl, rfl, rfl, rfl⟩ := hcut
        have HF := Aside0.mk h2
        have hp2 : p2 ≤ s.size := (frac_prog h2 (int_prog HI.out).2).2
        clear h2
        simp only
        go_upto_region 28 with fail
        go_cut [116] (fun b wx => wx = w.alloc (.cells #[.int .i64 0, .int .i64 0, .int .i64 0, .string ⟨#[]⟩] 68) ∧ b = .bool ((runeP s p2).1 == 69 || (runeP s p2).1 == 101))
        case first =>
          cases h69 : ((runeP s p2).1 == 69) with
          | true =>
            go_wp2_with fail
            go_meet
            case rel => exact ⟨rfl, by rw [h69, Bool.true_or]⟩
          | false =>
            go_wp2_with fail
            go_meet
            case rel => exact ⟨rfl, by rw [h69, Bool.false_or]⟩
        obtain ⟨rfl, rfl⟩ := hcut
        go_upto_if 116 with fail
        go_cut [12, 13] (fun i b wx => wx = w.alloc (.cells #[.int .i64 0, .int .i64 0, .int .i64 0, .string ⟨#[]⟩] 68) ∧ ∃ y, mExp s p2 = some y ∧ i = .int .i64 y.2 ∧ b = .bool (fl || y.1))
        case first =>
          by_cases h69 : bt s p2 = 69 ∨ bt s p2 = 101
          · have hp2s : p2 < s.size := by
              rcases Nat.lt_or_ge p2 s.size with h | h
              · exact h
              · rw [bt_out s p2 h] at h69; omega
            have hrp := runeP_lt hp2s
            have hr1 : (runeP s p2).1 = bt s p2 := by rw [hrp]
            have hr2 : (runeP s p2).2 = 1 := by rw [hrp]
            rw [hr1, hr2]
            clear hr1 hr2 hrp
            have hr := HR.out (p2 + 1) (by omega)
            obtain ⟨k, hk⟩ : ∃ k, k = (if bt s (p2 + 1 : Nat) = 43 ∨ bt s (p2 + 1 : Nat) = 45 then p2 + 2 else p2 + 1) := ⟨_, rfl⟩
            have HK := Aside0.mk hk
            have hms : mExp s p2 = (mDig s k).map fun q => (true, q) := by unfold mExp; rw [if_pos h69, hk]
            have HMS := Aside0.mk hms
            have h43 : (bt s (p2 + 1 : Nat) = 43 ∨ bt s (p2 + 1 : Nat) = 45) ∨ ¬ (bt s (p2 + 1 : Nat) = 43 ∨ bt s (p2 + 1 : Nat) = 45) := Decidable.em _
            clear hk hms
            have h69t : (bt s p2 == 69 || bt s p2 == 101) = true := by
              rcases h69 with h | h
              · rw [h]; rfl
              · rw [h]; rfl
            clear h69
            generalize bt s p2 = c2 at *
            rw [h69t]
            rcases h43 with h43 | h43
            · have hkk : k = p2 + 2 := by rw [HK.out, if_pos h43]
              have hp3s : p2 + 1 < s.size := by
                rcases Nat.lt_or_ge (p2 + 1) s.size with h | h
                · exact h
                · rw [bt_out s _ h] at h43; omega
              have hrp := runeP_lt hp3s
              rw [hrp] at hr
              subst hkk
              have hr3 := HR.out (p2 + 2) (by omega)
              have h43b : ((bt s (p2 + 1 : Nat) == 43) = true) ∨ ((bt s (p2 + 1 : Nat) == 43) = false ∧ (bt s (p2 + 1 : Nat) == 45) = true) := by
                rcases h43 with h | h
                · exact .inl (by rw [h]; rfl)
                · exact .inr ⟨by rw [h]; rfl, by rw [h]; rfl⟩
              clear h43 hrp
              generalize bt s (p2 + 1 : Nat) = c3 at *
              cases hx : mDig s (p2 + 2) with
              | none =>
                have H0 := Aside0.mk (show mNum s q = none by rw [HM.out, ← HP0.out, HI.out]; simp only [Option.bind_some]; rw [HF.out]; simp only [Option.bind_some]; rw [HMS.out, hx]; rfl)
                have hy := HN.out (p2 + 2) hx
                clear hx
                rcases h43b with h43b | ⟨h43b, h43c⟩
                all_goals
                  go_wp2_with fail
                  refine hr.mono ?_
                  rintro e w' ⟨rfl, rfl⟩
                  go_wp2_with fail
                  refine hr3.mono ?_
                  rintro e w' ⟨rfl, rfl⟩
                  generalize (runeP s (p2 + 2)).1 = x1 at *
                  generalize (runeP s (p2 + 2)).2 = n1 at *
                  go_wp2_with fail
                  refine (hy).mono ?_
                  rintro e w2 ⟨⟨x9, g2, rfl⟩, hb2⟩
                  obtain ⟨r0, r1, r2, r3⟩ := four_kept1 hb2
                  have hz0 := frozen_kept1 hb2 0
                  have hz1 := frozen_kept1 hb2 1
                  have hz2 := frozen_kept1 hb2 2
                  have hz3 := frozen_kept1 hb2 3
                  have HB2 := Aside0.mk (below_one hb2)
                  clear hb2
                  go_wp2_with fail
                  refine bodyPost_ret (v := .tuple #[.agg #[.int .i64 0, .int .i64 0, .int .i64 0, .string ⟨#[]⟩], errV g2]) (by simp [results, Tryz.results71, go_sem, r0, r1, r2, r3, errV]) rfl ⟨below_four HB2.out, .inr ⟨H0.out, g2, rfl⟩⟩
              | some p4 =>
                have H1 := Aside0.mk (show mExp s p2 = some (true, p4) by rw [HMS.out, hx]; rfl)
                have hy := HY.out (p2 + 2) p4 hx
                clear hx
                rcases h43b with h43b | ⟨h43b, h43c⟩
                all_goals
                  go_wp2_with fail
                  refine hr.mono ?_
                  rintro e w' ⟨rfl, rfl⟩
                  go_wp2_with fail
                  refine hr3.mono ?_
                  rintro e w' ⟨rfl, rfl⟩
                  generalize (runeP s (p2 + 2)).1 = x1 at *
                  generalize (runeP s (p2 + 2)).2 = n1 at *
                  go_wp2_with fail
                  refine hy.mono ?_
                  rintro e w' ⟨rfl, rfl⟩
                  go_wp2_with fail
                  go_meet
                  case rel => exact ⟨rfl, (true, p4), H1.out, rfl, by simp⟩
            · have hkk : k = p2 + 1 := by rw [HK.out, if_neg h43]
              subst hkk
              have h43b : ((runeP s (p2 + 1)).1 == 43) = false := beq_eq_false_iff_ne.2 fun h => h43 (.inl ((runeP_fst 43 (by decide)).1 h))
              have h45b : ((runeP s (p2 + 1)).1 == 45) = false := beq_eq_false_iff_ne.2 fun h => h43 (.inr ((runeP_fst 45 (by decide)).1 h))
              clear h43
              cases hx : mDig s (p2 + 1) with
              | none =>
                have H0 := Aside0.mk (show mNum s q = none by rw [HM.out, ← HP0.out, HI.out]; simp only [Option.bind_some]; rw [HF.out]; simp only [Option.bind_some]; rw [HMS.out, hx]; rfl)
                have hy := HN.out (p2 + 1) hx
                clear hx
                all_goals
                  go_wp2_with fail
                  refine hr.mono ?_
                  rintro e w' ⟨rfl, rfl⟩
                  generalize (runeP s (p2 + 1)).1 = x1 at *
                  generalize (runeP s (p2 + 1)).2 = n1 at *
                  go_wp2_with fail
                  refine (hy).mono ?_
                  rintro e w2 ⟨⟨x9, g2, rfl⟩, hb2⟩
                  obtain ⟨r0, r1, r2, r3⟩ := four_kept1 hb2
                  have hz0 := frozen_kept1 hb2 0
                  have hz1 := frozen_kept1 hb2 1
                  have hz2 := frozen_kept1 hb2 2
                  have hz3 := frozen_kept1 hb2 3
                  have HB2 := Aside0.mk (below_one hb2)
                  clear hb2
                  go_wp2_with fail
                  refine bodyPost_ret (v := .tuple #[.agg #[.int .i64 0, .int .i64 0, .int .i64 0, .string ⟨#[]⟩], errV g2]) (by simp [results, Tryz.results71, go_sem, r0, r1, r2, r3, errV]) rfl ⟨below_four HB2.out, .inr ⟨H0.out, g2, rfl⟩⟩
              | some p4 =>
                have H1 := Aside0.mk (show mExp s p2 = some (true, p4) by rw [HMS.out, hx]; rfl)
                have hy := HY.out (p2 + 1) p4 hx
                clear hx
                all_goals
                  go_wp2_with fail
                  refine hr.mono ?_
                  rintro e w' ⟨rfl, rfl⟩
                  generalize (runeP s (p2 + 1)).1 = x1 at *
                  generalize (runeP s (p2 + 1)).2 = n1 at *
                  go_wp2_with fail
                  refine hy.mono ?_
                  rintro e w' ⟨rfl, rfl⟩
                  go_wp2_with fail
                  go_meet
                  case rel => exact ⟨rfl, (true, p4), H1.out, rfl, by simp⟩
          · have h69b : ((runeP s p2).1 == 69) = false := beq_eq_false_iff_ne.2 fun h => h69 (.inl ((runeP_fst 69 (by decide)).1 h))
            have h101b : ((runeP s p2).1 == 101) = false := beq_eq_false_iff_ne.2 fun h => h69 (.inr ((runeP_fst 101 (by decide)).1 h))
            have H1 := Aside0.mk (show mExp s p2 = some (false, p2) by unfold mExp; rw [if_neg h69])
            clear h69
            rw [h69b, h101b, Bool.false_or]
            clear h69b h101b
            go_wp2_with fail
            go_meet
            case rel => exact ⟨rfl, (false, p2), H1.out, rfl, by simp⟩
        case rest =>
          obtain ⟨rfl, ⟨ex, p3⟩, h3, rfl, rfl⟩ := hcut
          have hp3 := exp_prog h3 hp2
          have hqp : q ≤ p3 := by
            have h1 := int_prog HI.out
            have h2 := frac_prog HF.out h1.2
            have h3 : q ≤ p0 := by rw [HP0.out]; split <;> omega
            simp only at h2 hp3
            omega
          have H0 := Aside0.mk (show mNum s q = some ⟨if fl || ex then 17 else 16, q, p3, s.extract q p3⟩ by rw [HM.out, ← HP0.out, HI.out]; simp only [Option.bind_some]; rw [HF.out]; simp only [Option.bind_some]; rw [h3]; rfl)
          simp only at hp3
          have hp3l := hp3.2
          have hcv := conv_part HBB.out q p3 cap hqp hp3l
          clear h3 hp3
          simp only
          generalize (fl || ex) = bb3 at *
          cases bb3
          all_goals
            go_wp2_with fail
            refine (makeToken_any _ _ _ _ _).mono ?_
            rintro e w2 ⟨rfl, hb2⟩
            obtain ⟨r0, r1, r2, r3⟩ := four_kept1 hb2
            have hz0 := frozen_kept1 hb2 0
            have hz1 := frozen_kept1 hb2 1
            have hz2 := frozen_kept1 hb2 2
            have hz3 := frozen_kept1 hb2 3
            have HB2 := Aside0.mk (below_one hb2)
            clear hb2
            go_wp2_with fail
            refine bodyPost_ret (v := .tuple #[.agg #[.int .i64 _, .int .i64 q, .int .i64 p3, .string (s.extract q p3)], .nilIface]) (by simp [results, Tryz.results71, go_sem, r0, r1, r2, r3]) rfl ⟨below_four HB2.out, .inl ⟨_, H0.out, rfl⟩⟩
end Go.Proofs.YthbinlnpipgobaaGreatDoor.Lx
