import Derived.Test.YthbinlnpipgobaaGreatDoorU03
import Derived.Test.YthbinlnpipgobaaGreatDoorU04
import Derived.Test.YthbinlnpipgobaaGreatDoorU05
namespace Go.Proofs.YthbinlnpipgobaaGreatDoor.Lx
set_option linter.unusedVariables false
set_option linter.unusedSimpArgs false
open Go.RowKit Go.Proofs.YthbinlnpipgobaaGreatDoorW.PrintWords Go.Proofs.YthbinlnpipgobaaGreatDoor.Keep Go.Proofs.YthbinlnpipgobaaGreatDoor.Mod Go.Proofs.YthbinlnpipgobaaGreatDoor.Sim Go.Proofs.YthbinlnpipgobaaGreatDoor.Four Go.Proofs.YthbinlnpipgobaaGreatDoor.Step Go.Proofs.YthbinlnpipgobaaGreatDoor.Env Go.Proofs.YthbinlnpipgobaaGreatDoor.Err

set_option maxRecDepth 100000 in
set_option maxHeartbeats 8000000 in
theorem tok_dot (sb bb p q cap : Nat) (s : ByteArray) (w : World) (hb : BodyAt w bb s) (hcap : s.size ≤ cap) (hpl : Plain s) (hs : s.size ≤ 100000) (h0 : w.cell? ⟨sb, 0, none⟩ = some (.slice (some ⟨bb, 0, none⟩) s.size cap)) (hp : p ≤ s.size) (hq : scan isWs s s.size p = q) (hqe : q < s.size) (h46 : bt s q = 46) :
    Calls Tryz.prog 33 #[.pointer (some ⟨sb, 0, none⟩), .int .i64 p] w fun e w' => TokRes (mTokAt s q) w e w' := by
  have hsb : sb < w.heap.size := World.block_lt_of_cell? w _ h0
  have hBW : Below w.heap.size w (w.alloc (.cells #[.int .i64 0, .int .i64 0, .int .i64 0, .string ⟨#[]⟩] 68)) := below_alloc (Below.refl _ _) _
  have hbW := hb.below hBW
  have h0W := pw_cell_below hBW h0
  have HR := Aside0.mk (fun k => rune_plain bb k cap s _ hbW hcap hpl)
  have HS := Aside0.mk (ws_any bb p cap s _ hbW hcap hpl hp hs)
  have HE := Aside0.mk (fun msg pos => syntaxError_any sb bb cap pos s msg _ hbW h0W (by omega) hcap)
  have HN := Aside0.mk (fun hq2 => readName_any sb bb q cap s _ hbW hcap hpl hq2 hs h0W)
  have HM := Aside0.mk (fun hq2 => num_any sb bb q cap s _ hbW hcap hpl hs h0W hq2)
  have HQ := Aside0.mk (scan_all isWs rfl s p hp)
  have HP := Aside0.mk hpl
  rw [hq] at HS HQ
  have hqs : q ≤ s.size := HQ.out.2.1
  clear hb hbW h0W hBW hpl hq
  have hqi : (q : Int) < (s.size : Int) := by omega
  have hr := HR.out q (by omega)
  have hr1 := HR.out (q + 1) (by omega)
  have hr2 := HR.out (q + 2) (by omega)
  rw [runeP_lt hqe, h46] at hr
  have hM : mTokAt s q = if bt s (q + 1 : Nat) = 46 ∧ bt s (q + 2 : Nat) = 46 then some ⟨6, q, q + 3, ⟨#[]⟩⟩ else none := by unfold mTokAt; rw [h46, if_neg (by omega), if_neg (by decide), if_pos rfl]
  by_cases h1 : bt s (q + 1 : Nat) = 46
  · have e1 : (runeP s (q + 1)).1 = 46 := (runeP_fst 46 (by decide)).2 h1
    by_cases h2 : bt s (q + 2 : Nat) = 46
    · have H := Aside0.mk (hM.trans (if_pos ⟨h1, h2⟩))
      have e2 : (runeP s (q + 2)).1 = 46 := (runeP_fst 46 (by decide)).2 h2
      rw [e1] at hr1
      rw [e2] at hr2
      clear h1 h2 e1 e2 hM h46
      generalize (runeP s (q + 1)).2 = n1 at *
      generalize (runeP s (q + 2)).2 = n2 at *
      go_enter Tryz.func33, Tryz.ntmps33
      go_wp2_with fail
      refine HS.out.mono ?_
      rintro e w' ⟨rfl, rfl⟩
      go_wp2_with fail
      refine hr.mono ?_
      rintro e w' ⟨rfl, rfl⟩
      go_wp2_with fail
      refine hr1.mono ?_
      rintro e w' ⟨rfl, rfl⟩
      go_wp2_with fail
      refine hr2.mono ?_
      rintro e w' ⟨rfl, rfl⟩
      go_wp2_with fail
      refine (makeToken_any _ _ _ _ _).mono ?_
      rintro e w2 ⟨rfl, hb2⟩
      obtain ⟨r0, r1, r2, r3⟩ := four_kept1 hb2
      have hz0 := frozen_kept1 hb2 0
      have hz1 := frozen_kept1 hb2 1
      have hz2 := frozen_kept1 hb2 2
      have hz3 := frozen_kept1 hb2 3
      have HB2 := Aside0.mk (below_one hb2)
      clear hb2
      go_wp2_with fail
      refine bodyPost_ret (v := .tuple #[.agg #[.int .i64 6, .int .i64 q, .int .i64 (q + 3), .string ⟨#[]⟩], .nilIface]) (by simp [results, Tryz.results33, go_sem, r0, r1, r2, r3]) rfl ⟨below_four HB2.out, .inl ⟨_, H.out, by first | rfl | (simp [tokV]; done)⟩⟩
    · have H := Aside0.mk (hM.trans (if_neg (fun h => h2 h.2)))
      have e2 : ((runeP s (q + 2)).1 == 46) = false := beq_eq_false_iff_ne.2 fun h => h2 ((runeP_fst 46 (by decide)).1 h)
      rw [e1] at hr1
      clear h1 h2 e1 hM h46
      generalize (runeP s (q + 1)).2 = n1 at *
      generalize (runeP s (q + 2)).2 = n2 at *
      generalize (runeP s (q + 2)).1 = x2 at *
      go_enter Tryz.func33, Tryz.ntmps33
      go_wp2_with fail
      refine HS.out.mono ?_
      rintro e w' ⟨rfl, rfl⟩
      go_wp2_with fail
      refine hr.mono ?_
      rintro e w' ⟨rfl, rfl⟩
      go_wp2_with fail
      refine hr1.mono ?_
      rintro e w' ⟨rfl, rfl⟩
      go_wp2_with fail
      refine hr2.mono ?_
      rintro e w' ⟨rfl, rfl⟩
      go_wp2_with fail
      refine (HE.out _ _).mono ?_
      rintro e w2 ⟨g2, rfl, hb2⟩
      obtain ⟨r0, r1, r2, r3⟩ := four_kept1 hb2
      have hz0 := frozen_kept1 hb2 0
      have hz1 := frozen_kept1 hb2 1
      have hz2 := frozen_kept1 hb2 2
      have hz3 := frozen_kept1 hb2 3
      have HB2 := Aside0.mk (below_one hb2)
      clear hb2
      go_wp2_with fail
      refine bodyPost_ret (v := .tuple #[.agg #[.int .i64 0, .int .i64 0, .int .i64 0, .string ⟨#[]⟩], errV g2]) (by simp [results, Tryz.results33, go_sem, r0, r1, r2, r3, errV]) rfl ⟨below_four HB2.out, .inr ⟨H.out, g2, rfl⟩⟩
  · have H := Aside0.mk (hM.trans (if_neg (fun h => h1 h.1)))
    have e1 : ((runeP s (q + 1)).1 == 46) = false := beq_eq_false_iff_ne.2 fun h => h1 ((runeP_fst 46 (by decide)).1 h)
    clear h1 hM h46
    generalize (runeP s (q + 1)).2 = n1 at *
    generalize (runeP s (q + 2)).2 = n2 at *
    generalize (runeP s (q + 1)).1 = x1 at *
    generalize (runeP s (q + 2)).1 = x2 at *
    go_enter Tryz.func33, Tryz.ntmps33
    go_wp2_with fail
    refine HS.out.mono ?_
    rintro e w' ⟨rfl, rfl⟩
    go_wp2_with fail
    refine hr.mono ?_
    rintro e w' ⟨rfl, rfl⟩
    go_wp2_with fail
    refine hr1.mono ?_
    rintro e w' ⟨rfl, rfl⟩
    go_wp2_with fail
    refine hr2.mono ?_
    rintro e w' ⟨rfl, rfl⟩
    go_wp2_with fail
    refine (HE.out _ _).mono ?_
    rintro e w2 ⟨g2, rfl, hb2⟩
    obtain ⟨r0, r1, r2, r3⟩ := four_kept1 hb2
    have hz0 := frozen_kept1 hb2 0
    have hz1 := frozen_kept1 hb2 1
    have hz2 := frozen_kept1 hb2 2
    have hz3 := frozen_kept1 hb2 3
    have HB2 := Aside0.mk (below_one hb2)
    clear hb2
    go_wp2_with fail
    refine bodyPost_ret (v := .tuple #[.agg #[.int .i64 0, .int .i64 0, .int .i64 0, .string ⟨#[]⟩], errV g2]) (by simp [results, Tryz.results33, go_sem, r0, r1, r2, r3, errV]) rfl ⟨below_four HB2.out, .inr ⟨H.out, g2, rfl⟩⟩
set_option maxRecDepth 100000 in
set_option maxHeartbeats 8000000 in
theorem tok_ctl (sb bb p q cap : Nat) (s : ByteArray) (w : World) (hb : BodyAt w bb s) (hcap : s.size ≤ cap) (hpl : Plain s) (hs : s.size ≤ 100000) (h0 : w.cell? ⟨sb, 0, none⟩ = some (.slice (some ⟨bb, 0, none⟩) s.size cap)) (hp : p ≤ s.size) (hq : scan isWs s s.size p = q) (hqe : q < s.size) (hw : isWs (bt s q) = false) (hc : bt s q < 32) :
    Calls Tryz.prog 33 #[.pointer (some ⟨sb, 0, none⟩), .int .i64 p] w fun e w' => TokRes (mTokAt s q) w e w' := by
  have hsb : sb < w.heap.size := World.block_lt_of_cell? w _ h0
  have hBW : Below w.heap.size w (w.alloc (.cells #[.int .i64 0, .int .i64 0, .int .i64 0, .string ⟨#[]⟩] 68)) := below_alloc (Below.refl _ _) _
  have hbW := hb.below hBW
  have h0W := pw_cell_below hBW h0
  have HR := Aside0.mk (fun k => rune_plain bb k cap s _ hbW hcap hpl)
  have HS := Aside0.mk (ws_any bb p cap s _ hbW hcap hpl hp hs)
  have HE := Aside0.mk (fun msg pos => syntaxError_any sb bb cap pos s msg _ hbW h0W (by omega) hcap)
  have HN := Aside0.mk (fun hq2 => readName_any sb bb q cap s _ hbW hcap hpl hq2 hs h0W)
  have HM := Aside0.mk (fun hq2 => num_any sb bb q cap s _ hbW hcap hpl hs h0W hq2)
  have HQ := Aside0.mk (scan_all isWs rfl s p hp)
  have HP := Aside0.mk hpl
  rw [hq] at HS HQ
  have hqs : q ≤ s.size := HQ.out.2.1
  clear hb hbW h0W hBW hpl hq
  have H := Aside0.mk (show mTokAt s q = none by
    have hk : ¬ signK (bt s q) ≠ 0 := by unfold signK; omega
    have hl : ¬ isLet (bt s q) = true := by
      unfold isLet
      simp only [Bool.or_eq_true, Bool.and_eq_true, decide_eq_true_eq, beq_iff_eq]
      omega
    have hd : ¬ (bt s q = 45 ∨ isDig (bt s q) = true) := by
      rintro (h | h)
      · omega
      · have := isDig_iff.1 h; omega
    unfold mTokAt
    rw [if_neg (by omega), if_neg hk, if_neg (by omega), if_neg hl, if_neg hd])
  have hqi : (q : Int) < (s.size : Int) := by omega
  have hr := HR.out q (by omega)
  rw [runeP_lt hqe] at hr
  obtain ⟨n1, n2, n3, n4, n5⟩ := isWs_no hw
  have m1 : (bt s q != 9) = true := by simp only [bne, n1]; rfl
  have m3 : (bt s q != 10) = true := by simp only [bne, n3]; rfl
  have m4 : (bt s q != 13) = true := by simp only [bne, n4]; rfl
  clear hw
  generalize bt s q = c at *
  go_enter Tryz.func33, Tryz.ntmps33
  go_wp2_with fail
  refine HS.out.mono ?_
  rintro e w' ⟨rfl, rfl⟩
  go_wp2_with fail
  refine hr.mono ?_
  rintro e w' ⟨rfl, rfl⟩
  go_wp2_with fail
  refine (HE.out _ _).mono ?_
  rintro e w2 ⟨g2, rfl, hb2⟩
  obtain ⟨r0, r1, r2, r3⟩ := four_kept1 hb2
  have hz0 := frozen_kept1 hb2 0
  have hz1 := frozen_kept1 hb2 1
  have hz2 := frozen_kept1 hb2 2
  have hz3 := frozen_kept1 hb2 3
  have HB2 := Aside0.mk (below_one hb2)
  clear hb2
  go_wp2_with fail
  refine bodyPost_ret (v := .tuple #[.agg #[.int .i64 0, .int .i64 0, .int .i64 0, .string ⟨#[]⟩], errV g2]) (by simp [results, Tryz.results33, go_sem, r0, r1, r2, r3, errV]) rfl ⟨below_four HB2.out, .inr ⟨H.out, g2, rfl⟩⟩
end Go.Proofs.YthbinlnpipgobaaGreatDoor.Lx
namespace Go.Proofs.YthbinlnpipgobaaGreatDoor.Lx
set_option linter.unusedVariables false
set_option linter.unusedSimpArgs false
open Go.RowKit Go.Proofs.YthbinlnpipgobaaGreatDoorW.PrintWords Go.Proofs.YthbinlnpipgobaaGreatDoor.Keep Go.Proofs.YthbinlnpipgobaaGreatDoor.Mod Go.Proofs.YthbinlnpipgobaaGreatDoor.Sim Go.Proofs.YthbinlnpipgobaaGreatDoor.Four Go.Proofs.YthbinlnpipgobaaGreatDoor.Step Go.Proofs.YthbinlnpipgobaaGreatDoor.Env Go.Proofs.YthbinlnpipgobaaGreatDoor.Err

set_option maxRecDepth 100000 in
set_option maxHeartbeats 8000000 in
theorem tok_bad (sb bb p q cap : Nat) (s : ByteArray) (w : World) (hb : BodyAt w bb s) (hcap : s.size ≤ cap) (hpl : Plain s) (hs : s.size ≤ 100000) (h0 : w.cell? ⟨sb, 0, none⟩ = some (.slice (some ⟨bb, 0, none⟩) s.size cap)) (hp : p ≤ s.size) (hq : scan isWs s s.size p = q) (hqe : q < s.size) (hc : bt s q = 37 ∨ bt s q = 39 ∨ bt s q = 42 ∨ bt s q = 43 ∨ bt s q = 47 ∨ bt s q = 59 ∨ bt s q = 60 ∨ bt s q = 62 ∨ bt s q = 63 ∨ bt s q = 92 ∨ bt s q = 94 ∨ bt s q = 96 ∨ bt s q = 126 ∨ bt s q = 127) :
    Calls Tryz.prog 33 #[.pointer (some ⟨sb, 0, none⟩), .int .i64 p] w fun e w' => TokRes (mTokAt s q) w e w' := by
  have hsb : sb < w.heap.size := World.block_lt_of_cell? w _ h0
  have hBW : Below w.heap.size w (w.alloc (.cells #[.int .i64 0, .int .i64 0, .int .i64 0, .string ⟨#[]⟩] 68)) := below_alloc (Below.refl _ _) _
  have hbW := hb.below hBW
  have h0W := pw_cell_below hBW h0
  have HR := Aside0.mk (fun k => rune_plain bb k cap s _ hbW hcap hpl)
  have HS := Aside0.mk (ws_any bb p cap s _ hbW hcap hpl hp hs)
  have HE := Aside0.mk (fun msg pos => syntaxError_any sb bb cap pos s msg _ hbW h0W (by omega) hcap)
  have HN := Aside0.mk (fun hq2 => readName_any sb bb q cap s _ hbW hcap hpl hq2 hs h0W)
  have HM := Aside0.mk (fun hq2 => num_any sb bb q cap s _ hbW hcap hpl hs h0W hq2)
  have HQ := Aside0.mk (scan_all isWs rfl s p hp)
  have HP := Aside0.mk hpl
  rw [hq] at HS HQ
  have hqs : q ≤ s.size := HQ.out.2.1
  clear hb hbW h0W hBW hpl hq
  have H := Aside0.mk (show mTokAt s q = none by
    have hk : ¬ signK (bt s q) ≠ 0 := by unfold signK; omega
    have hl : ¬ isLet (bt s q) = true := by
      unfold isLet
      simp only [Bool.or_eq_true, Bool.and_eq_true, decide_eq_true_eq, beq_iff_eq]
      omega
    have hd : ¬ (bt s q = 45 ∨ isDig (bt s q) = true) := by
      rintro (h | h)
      · omega
      · have := isDig_iff.1 h; omega
    unfold mTokAt
    rw [if_neg (by omega), if_neg hk, if_neg (by omega), if_neg hl, if_neg hd])
  have hqi : (q : Int) < (s.size : Int) := by omega
  have hr := HR.out q (by omega)
  rw [runeP_lt hqe] at hr
  generalize bt s q = c at *
  rcases hc with rfl | rfl | rfl | rfl | rfl | rfl | rfl | rfl | rfl | rfl | rfl | rfl | rfl | rfl
  all_goals
    go_enter Tryz.func33, Tryz.ntmps33
    go_wp2_with fail
    refine HS.out.mono ?_
    rintro e w' ⟨rfl, rfl⟩
    go_wp2_with fail
    refine hr.mono ?_
    rintro e w' ⟨rfl, rfl⟩
    go_wp2_with fail
    refine (HE.out _ _).mono ?_
    rintro e w2 ⟨g2, rfl, hb2⟩
    obtain ⟨r0, r1, r2, r3⟩ := four_kept1 hb2
    have hz0 := frozen_kept1 hb2 0
    have hz1 := frozen_kept1 hb2 1
    have hz2 := frozen_kept1 hb2 2
    have hz3 := frozen_kept1 hb2 3
    have HB2 := Aside0.mk (below_one hb2)
    clear hb2
    go_wp2_with fail
    refine bodyPost_ret (v := .tuple #[.agg #[.int .i64 0, .int .i64 0, .int .i64 0, .string ⟨#[]⟩], errV g2]) (by simp [results, Tryz.results33, go_sem, r0, r1, r2, r3, errV]) rfl ⟨below_four HB2.out, .inr ⟨H.out, g2, rfl⟩⟩
end Go.Proofs.YthbinlnpipgobaaGreatDoor.Lx
namespace Go.Proofs.YthbinlnpipgobaaGreatDoor.Lx
set_option linter.unusedVariables false
set_option linter.unusedSimpArgs false
open Go.RowKit Go.Proofs.YthbinlnpipgobaaGreatDoorW.PrintWords Go.Proofs.YthbinlnpipgobaaGreatDoor.Keep Go.Proofs.YthbinlnpipgobaaGreatDoor.Mod Go.Proofs.YthbinlnpipgobaaGreatDoor.Sim Go.Proofs.YthbinlnpipgobaaGreatDoor.Four Go.Proofs.YthbinlnpipgobaaGreatDoor.Step Go.Proofs.YthbinlnpipgobaaGreatDoor.Env Go.Proofs.YthbinlnpipgobaaGreatDoor.Err

theorem readToken_any (sb bb p cap : Nat) (s : ByteArray) (w : World) (hb : BodyAt w bb s) (hcap : s.size ≤ cap) (hpl : Plain s) (hs : s.size ≤ 100000) (h0 : w.cell? ⟨sb, 0, none⟩ = some (.slice (some ⟨bb, 0, none⟩) s.size cap)) (hp : p ≤ s.size) :
    Calls Tryz.prog 33 #[.pointer (some ⟨sb, 0, none⟩), .int .i64 p] w fun e w' => TokRes (lxOf s p) w e w' := by
  obtain ⟨q0, q1, q2, q3⟩ := scan_all isWs rfl s p hp
  obtain ⟨q, hq⟩ : ∃ q, scan isWs s s.size p = q := ⟨_, rfl⟩
  rw [show lxOf s p = mTokAt s q by unfold lxOf; rw [hq]]
  rw [hq] at q0 q1 q3
  rcases Nat.lt_or_ge q s.size with hqe | hqe
  · obtain ⟨p1, p2, p3⟩ := hpl q hqe
    have hby := bt_byte s q
    by_cases hk : signK (bt s q) = 0
    · by_cases hlow : bt s q < 32
      · exact tok_ctl sb bb p q cap s w hb hcap hpl hs h0 hp hq hqe q3 hlow
      · have hcs : bt s q = 46 ∨ (bt s q = 45 ∨ (48 ≤ bt s q ∧ bt s q ≤ 57)) ∨ (65 ≤ bt s q ∧ bt s q ≤ 90) ∨ (97 ≤ bt s q ∧ bt s q ≤ 122) ∨ bt s q = 95 ∨ (bt s q = 37 ∨ bt s q = 39 ∨ bt s q = 42 ∨ bt s q = 43 ∨ bt s q = 47 ∨ bt s q = 59 ∨ bt s q = 60 ∨ bt s q = 62 ∨ bt s q = 63 ∨ bt s q = 92 ∨ bt s q = 94 ∨ bt s q = 96 ∨ bt s q = 126 ∨ bt s q = 127) := by
          obtain ⟨n1, n2, n3, n4, n5⟩ := isWs_no q3
          have n2 := beq_eq_false_iff_ne.1 n2
          have n5 := beq_eq_false_iff_ne.1 n5
          unfold signK at hk
          omega
        rcases hcs with h | h | ⟨h1, h2⟩ | ⟨h1, h2⟩ | h | h
        · exact tok_dot sb bb p q cap s w hb hcap hpl hs h0 hp hq hqe h
        · exact tok_num sb bb p q cap s w hb hcap hpl hs h0 hp hq hqe (h.imp id isDig_iff.2)
        · exact tok_upper sb bb p q cap s w hb hcap hpl hs h0 hp hq hqe h1 h2
        · exact tok_lower sb bb p q cap s w hb hcap hpl hs h0 hp hq hqe h1 h2
        · exact tok_line sb bb p q cap s w hb hcap hpl hs h0 hp hq hqe h
        · exact tok_bad sb bb p q cap s w hb hcap hpl hs h0 hp hq hqe h
    · exact tok_sign sb bb p q cap s w hb hcap hpl hs h0 hp hq hqe hk
  · exact tok_end sb bb p q cap s w hb hcap hpl hs h0 hp hq hqe

/-- The lexer's closure, called for a place. -/
theorem lex_any (E : At) (w : World) (p : Nat) (v : Int) (hS : Src E w) (hp : p ≤ E.s.size) (hQ : Blk w E.qb 3 #[.int .i64 v]) (h0 : 0 < p ∨ v = 0) (hF : Far E) :
    Calls Tryz.prog 32 #[.int .i64 p, .pointer (some ⟨E.qb, 0, none⟩), .pointer (some ⟨E.xb, 0, none⟩)] w fun e w' =>
      Keeps E.qb E.qb w w' ∧ (∃ v' : Int, Blk w' E.qb 3 #[.int .i64 v']) ∧ ((∃ t, lxOf E.s p = some t ∧ e = .returned (.tuple #[tokV t, .nilIface])) ∨ (lxOf E.s p = none ∧ ∃ g, e = .returned (.tuple #[zeroT, errV g]))) := by
  have hq0 : w.cell? ⟨E.qb, 0, none⟩ = some (.int .i64 v) := (hQ.cell 0).trans rfl
  have hqf := hQ.frozen 0
  have hql := hQ.lt
  have hx0 := hS.x0
  have hxl : E.xb < w.heap.size := World.block_lt_of_cell? w _ hx0
  obtain ⟨W, hW⟩ : ∃ W, W = w.alloc (.cells #[.int .i64 0, .int .i64 0, .int .i64 0, .string ⟨#[]⟩] 68) := ⟨_, rfl⟩
  have hBW : Below w.heap.size w W := by rw [hW]; exact below_alloc (Below.refl _ _) _
  have hRT := readToken_any E.sb E.bb p E.cap E.s W (hS.body.below hBW) hS.cap hS.plain hS.size (pw_cell_below hBW hS.s0) hp
  rw [hW] at hRT
  have HRT := Aside0.mk hRT
  have HQ := Aside0.mk hQ
  have HF := Aside0.mk hF
  clear hRT hW hBW hS hQ
  by_cases hp0 : p = 0
  · obtain rfl : v = 0 := by omega
    subst hp0
    go_enter Tryz.func32, Tryz.ntmps32
    go_wp2_with fail
    refine HRT.out.mono ?_
    rintro e w2 ⟨hb2, h⟩
    rcases h with ⟨t, ht, rfl⟩ | ⟨hn, g, rfl⟩
    · obtain ⟨r0, r1, r2, r3⟩ := four_kept1 hb2
      have hz0 := frozen_kept1 hb2 0
      have hz1 := frozen_kept1 hb2 1
      have hz2 := frozen_kept1 hb2 2
      have hz3 := frozen_kept1 hb2 3
      have hlt : w.heap.size < w2.heap.size := by have h := hb2.size; simp only [World.size_alloc] at h; omega
      have HB2 := Aside0.mk (below_one hb2)
      have hqc := pw_cell_below HB2.out hq0
      have hqz : w2.frozen? ⟨E.qb, 0, none⟩ = false := (HB2.out.frozen (p := ⟨E.qb, 0, none⟩) hql).trans hqf
      have H2 := Aside0.mk ht
      have HQ2 := Aside0.mk (HQ.out.below HB2.out hql)
      have hq2 : E.qb < w2.heap.size := by omega
      have hqn1 : ¬ w2.heap.size = E.qb := by omega
      have hqn2 : ¬ E.qb = w2.heap.size := by omega
      have hqn3 : ¬ w.heap.size = E.qb := by omega
      have hqn4 : E.qb ≠ w.heap.size := by omega
      clear hb2 ht
      go_wp2_with fail
      refine bodyPost_ret (v := .tuple #[tokV t, .nilIface]) (by simp [results, Tryz.results32, go_sem, r0, r1, r2, r3, tokV, hlt, hqn1, hqn2, hqn3, hqn4]) rfl ⟨?_, ?_, .inl ⟨t, H2.out, rfl⟩⟩
      · exact (((((Keeps.of_below E.qb E.qb HB2.out).setP 0 _).setNew (x := ⟨w.heap.size, 0, none⟩) (Nat.le_refl _) _).setNew (x := ⟨w.heap.size, 1, none⟩) (Nat.le_refl _) _).setNew (x := ⟨w.heap.size, 2, none⟩) (Nat.le_refl _) _).setNew (x := ⟨w.heap.size, 3, none⟩) (Nat.le_refl _) _ |>.alloc _
      · exact ⟨_, (((((HQ2.out.set_ 0 (.int .i64 t.stop)).far (p := ⟨w.heap.size, 0, none⟩) hqn4 _).far (p := ⟨w.heap.size, 1, none⟩) hqn4 _).far (p := ⟨w.heap.size, 2, none⟩) hqn4 _).far (p := ⟨w.heap.size, 3, none⟩) hqn4 _).alloc _⟩
    · obtain ⟨r0, r1, r2, r3⟩ := four_kept1 hb2
      have hz0 := frozen_kept1 hb2 0
      have hz1 := frozen_kept1 hb2 1
      have hz2 := frozen_kept1 hb2 2
      have hz3 := frozen_kept1 hb2 3
      have hlt : w.heap.size < w2.heap.size := by have h := hb2.size; simp only [World.size_alloc] at h; omega
      have HB2 := Aside0.mk (below_one hb2)
      have H2 := Aside0.mk hn
      have HQ2 := Aside0.mk (HQ.out.below HB2.out hql)
      have hqn4 : E.qb ≠ w.heap.size := by omega
      clear hb2 hn
      go_wp2_with fail
      refine bodyPost_ret (v := .tuple #[zeroT, errV g]) (by simp [results, Tryz.results32, go_sem, r0, r1, r2, r3, zeroT, errV, hlt]) rfl ⟨?_, ?_, .inr ⟨H2.out, g, rfl⟩⟩
      · exact (((Keeps.of_below E.qb E.qb HB2.out).setNew (x := ⟨w.heap.size, 0, none⟩) (Nat.le_refl _) _).setNew (x := ⟨w.heap.size, 1, none⟩) (Nat.le_refl _) _).setNew (x := ⟨w.heap.size, 2, none⟩) (Nat.le_refl _) _ |>.setNew (x := ⟨w.heap.size, 3, none⟩) (Nat.le_refl _) _ |>.alloc _
      · exact ⟨_, ((((HQ2.out.far (p := ⟨w.heap.size, 0, none⟩) hqn4 _).far (p := ⟨w.heap.size, 1, none⟩) hqn4 _).far (p := ⟨w.heap.size, 2, none⟩) hqn4 _).far (p := ⟨w.heap.size, 3, none⟩) hqn4 _).alloc _⟩
  · have hpi : ((p : Int) == 0) = false := beq_eq_false_iff_ne.2 (by omega)
    go_enter Tryz.func32, Tryz.ntmps32
    go_wp2_with fail
    refine HRT.out.mono ?_
    rintro e w2 ⟨hb2, h⟩
    rcases h with ⟨t, ht, rfl⟩ | ⟨hn, g, rfl⟩
    · obtain ⟨r0, r1, r2, r3⟩ := four_kept1 hb2
      have hz0 := frozen_kept1 hb2 0
      have hz1 := frozen_kept1 hb2 1
      have hz2 := frozen_kept1 hb2 2
      have hz3 := frozen_kept1 hb2 3
      have hlt : w.heap.size < w2.heap.size := by have h := hb2.size; simp only [World.size_alloc] at h; omega
      have HB2 := Aside0.mk (below_one hb2)
      have hqc := pw_cell_below HB2.out hq0
      have hqz : w2.frozen? ⟨E.qb, 0, none⟩ = false := (HB2.out.frozen (p := ⟨E.qb, 0, none⟩) hql).trans hqf
      have H2 := Aside0.mk ht
      have HQ2 := Aside0.mk (HQ.out.below HB2.out hql)
      have hq2 : E.qb < w2.heap.size := by omega
      have hqn1 : ¬ w2.heap.size = E.qb := by omega
      have hqn2 : ¬ E.qb = w2.heap.size := by omega
      have hqn3 : ¬ w.heap.size = E.qb := by omega
      have hqn4 : E.qb ≠ w.heap.size := by omega
      clear hb2 ht
      go_wp2_with fail
      refine bodyPost_ret (v := .tuple #[tokV t, .nilIface]) (by simp [results, Tryz.results32, go_sem, r0, r1, r2, r3, tokV, hlt, hqn1, hqn2, hqn3, hqn4]) rfl ⟨?_, ?_, .inl ⟨t, H2.out, rfl⟩⟩
      · exact (((((Keeps.of_below E.qb E.qb HB2.out).setP 0 _).setNew (x := ⟨w.heap.size, 0, none⟩) (Nat.le_refl _) _).setNew (x := ⟨w.heap.size, 1, none⟩) (Nat.le_refl _) _).setNew (x := ⟨w.heap.size, 2, none⟩) (Nat.le_refl _) _).setNew (x := ⟨w.heap.size, 3, none⟩) (Nat.le_refl _) _ |>.alloc _
      · exact ⟨_, (((((HQ2.out.set_ 0 (.int .i64 t.stop)).far (p := ⟨w.heap.size, 0, none⟩) hqn4 _).far (p := ⟨w.heap.size, 1, none⟩) hqn4 _).far (p := ⟨w.heap.size, 2, none⟩) hqn4 _).far (p := ⟨w.heap.size, 3, none⟩) hqn4 _).alloc _⟩
    · obtain ⟨r0, r1, r2, r3⟩ := four_kept1 hb2
      have hz0 := frozen_kept1 hb2 0
      have hz1 := frozen_kept1 hb2 1
      have hz2 := frozen_kept1 hb2 2
      have hz3 := frozen_kept1 hb2 3
      have hlt : w.heap.size < w2.heap.size := by have h := hb2.size; simp only [World.size_alloc] at h; omega
      have HB2 := Aside0.mk (below_one hb2)
      have H2 := Aside0.mk hn
      have HQ2 := Aside0.mk (HQ.out.below HB2.out hql)
      have hqn4 : E.qb ≠ w.heap.size := by omega
      clear hb2 hn
      go_wp2_with fail
      refine bodyPost_ret (v := .tuple #[zeroT, errV g]) (by simp [results, Tryz.results32, go_sem, r0, r1, r2, r3, zeroT, errV, hlt]) rfl ⟨?_, ?_, .inr ⟨H2.out, g, rfl⟩⟩
      · exact (((Keeps.of_below E.qb E.qb HB2.out).setNew (x := ⟨w.heap.size, 0, none⟩) (Nat.le_refl _) _).setNew (x := ⟨w.heap.size, 1, none⟩) (Nat.le_refl _) _).setNew (x := ⟨w.heap.size, 2, none⟩) (Nat.le_refl _) _ |>.setNew (x := ⟨w.heap.size, 3, none⟩) (Nat.le_refl _) _ |>.alloc _
      · exact ⟨_, ((((HQ2.out.far (p := ⟨w.heap.size, 0, none⟩) hqn4 _).far (p := ⟨w.heap.size, 1, none⟩) hqn4 _).far (p := ⟨w.heap.size, 2, none⟩) hqn4 _).far (p := ⟨w.heap.size, 3, none⟩) hqn4 _).alloc _⟩
end Go.Proofs.YthbinlnpipgobaaGreatDoor.Lx
