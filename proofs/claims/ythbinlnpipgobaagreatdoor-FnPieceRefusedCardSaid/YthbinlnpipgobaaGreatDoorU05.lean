import Derived.Test.YthbinlnpipgobaaGreatDoorU03
namespace Go.Proofs.YthbinlnpipgobaaGreatDoor.Lx
set_option linter.unusedVariables false
set_option linter.unusedSimpArgs false
open Go.RowKit Go.Proofs.YthbinlnpipgobaaGreatDoorW.PrintWords Go.Proofs.YthbinlnpipgobaaGreatDoor.Keep Go.Proofs.YthbinlnpipgobaaGreatDoor.Mod Go.Proofs.YthbinlnpipgobaaGreatDoor.Sim Go.Proofs.YthbinlnpipgobaaGreatDoor.Four Go.Proofs.YthbinlnpipgobaaGreatDoor.Step Go.Proofs.YthbinlnpipgobaaGreatDoor.Env Go.Proofs.YthbinlnpipgobaaGreatDoor.Err

set_option maxRecDepth 100000 in
set_option maxHeartbeats 8000000 in
theorem tok_upper (sb bb p q cap : Nat) (s : ByteArray) (w : World) (hb : BodyAt w bb s) (hcap : s.size ≤ cap) (hpl : Plain s) (hs : s.size ≤ 100000) (h0 : w.cell? ⟨sb, 0, none⟩ = some (.slice (some ⟨bb, 0, none⟩) s.size cap)) (hp : p ≤ s.size) (hq : scan isWs s s.size p = q) (hqe : q < s.size) (h1 : 65 ≤ bt s q) (h2 : bt s q ≤ 90) :
    Calls Tryz.prog 33 #[.pointer (some ⟨sb, 0, none⟩), .int .i64 p] w fun e w' => TokRes (mTokAt s q) w e w' := by
  have hsb : sb < w.heap.size := World.block_lt_of_cell? w _ h0
  have hBW : Below w.heap.size w (w.alloc (.cells #[.int .i64 0, .int .i64 0, .int .i64 0, .string ⟨#[]⟩] 68)) := below_alloc (Below.refl _ _) _
  have hbW := hb.below hBW
  have h0W := pw_cell_below hBW h0
  have HR := Aside0.mk (fun k => rune_plain bb k cap s _ hbW hcap hpl)
  have HS := Aside0.mk (ws_any bb p cap s _ hbW hcap hpl hp hs)
  have HE := Aside0.mk (fun msg pos => syntaxError_any sb bb cap pos s msg _ hbW h0W (by omega) hcap)
  have HN := Aside0.mk (fun hq2 => readName_any sb bb q cap s _ hbW hcap hpl hq2 hs h0W)
  have HM := Aside0.mk (fun hq2 => num_any sb bb q cap s _ hbW hcap hpl hs h0W hq2)
  have HQ := Aside0.mk (scan_all isWs rfl s p hp)
  have HP := Aside0.mk hpl
  rw [hq] at HS HQ
  have hqs : q ≤ s.size := HQ.out.2.1
  clear hb hbW h0W hBW hpl hq
  have hk : signK (bt s q) = 0 := by
    have h3 : signK (bt s q) = 0 ∨ signK (bt s q) ≠ 0 := by omega
    rcases h3 with h | h
    · exact h
    · unfold signK at h; omega
  have hl : isLet (bt s q) = true := by
    unfold isLet
    simp only [Bool.or_eq_true, Bool.and_eq_true, decide_eq_true_eq, beq_iff_eq]
    omega
  have H := Aside0.mk (show mTokAt s q = some ⟨15, q, scan isNam s s.size (q + 1), s.extract q (scan isNam s s.size (q + 1))⟩ by unfold mTokAt; rw [if_neg (by omega), if_neg (by omega), if_neg (by omega), if_pos hl])
  have hqi : (q : Int) < (s.size : Int) := by omega
  have hr := HR.out q (by omega)
  rw [runeP_lt hqe] at hr
  clear hk hl
  generalize bt s q = c at *
  go_enter Tryz.func33, Tryz.ntmps33
  go_wp2_with fail
  refine HS.out.mono ?_
  rintro e w' ⟨rfl, rfl⟩
  go_wp2_with fail
  refine hr.mono ?_
  rintro e w' ⟨rfl, rfl⟩
  go_wp2_with fail
  all_goals
    refine (HN.out hqe).mono ?_
    rintro e w2 ⟨rfl, hb2⟩
    obtain ⟨r0, r1, r2, r3⟩ := four_kept1 hb2
    have hz0 := frozen_kept1 hb2 0
    have hz1 := frozen_kept1 hb2 1
    have hz2 := frozen_kept1 hb2 2
    have hz3 := frozen_kept1 hb2 3
    have HB2 := Aside0.mk (below_one hb2)
    clear hb2
    go_wp2_with fail
    refine bodyPost_ret (v := .tuple #[.agg #[.int .i64 15, .int .i64 q, .int .i64 (scan isNam s s.size (q + 1) : Nat), .string (s.extract q (scan isNam s s.size (q + 1)))], .nilIface]) (by simp [results, Tryz.results33, go_sem, r0, r1, r2, r3]) rfl ⟨below_four HB2.out, .inl ⟨_, H.out, by first | rfl | (simp [tokV]; done)⟩⟩
set_option maxRecDepth 100000 in
set_option maxHeartbeats 8000000 in
theorem tok_lower (sb bb p q cap : Nat) (s : ByteArray) (w : World) (hb : BodyAt w bb s) (hcap : s.size ≤ cap) (hpl : Plain s) (hs : s.size ≤ 100000) (h0 : w.cell? ⟨sb, 0, none⟩ = some (.slice (some ⟨bb, 0, none⟩) s.size cap)) (hp : p ≤ s.size) (hq : scan isWs s s.size p = q) (hqe : q < s.size) (h1 : 97 ≤ bt s q) (h2 : bt s q ≤ 122) :
    Calls Tryz.prog 33 #[.pointer (some ⟨sb, 0, none⟩), .int .i64 p] w fun e w' => TokRes (mTokAt s q) w e w' := by
  have hsb : sb < w.heap.size := World.block_lt_of_cell? w _ h0
  have hBW : Below w.heap.size w (w.alloc (.cells #[.int .i64 0, .int .i64 0, .int .i64 0, .string ⟨#[]⟩] 68)) := below_alloc (Below.refl _ _) _
  have hbW := hb.below hBW
  have h0W := pw_cell_below hBW h0
  have HR := Aside0.mk (fun k => rune_plain bb k cap s _ hbW hcap hpl)
  have HS := Aside0.mk (ws_any bb p cap s _ hbW hcap hpl hp hs)
  have HE := Aside0.mk (fun msg pos => syntaxError_any sb bb cap pos s msg _ hbW h0W (by omega) hcap)
  have HN := Aside0.mk (fun hq2 => readName_any sb bb q cap s _ hbW hcap hpl hq2 hs h0W)
  have HM := Aside0.mk (fun hq2 => num_any sb bb q cap s _ hbW hcap hpl hs h0W hq2)
  have HQ := Aside0.mk (scan_all isWs rfl s p hp)
  have HP := Aside0.mk hpl
  rw [hq] at HS HQ
  have hqs : q ≤ s.size := HQ.out.2.1
  clear hb hbW h0W hBW hpl hq
  have hk : signK (bt s q) = 0 := by
    have h3 : signK (bt s q) = 0 ∨ signK (bt s q) ≠ 0 := by omega
    rcases h3 with h | h
    · exact h
    · unfold signK at h; omega
  have hl : isLet (bt s q) = true := by
    unfold isLet
    simp only [Bool.or_eq_true, Bool.and_eq_true, decide_eq_true_eq, beq_iff_eq]
    omega
  have H := Aside0.mk (show mTokAt s q = some ⟨15, q, scan isNam s s.size (q + 1), s.extract q (scan isNam s s.size (q + 1))⟩ by unfold mTokAt; rw [if_neg (by omega), if_neg (by omega), if_neg (by omega), if_pos hl])
  have hqi : (q : Int) < (s.size : Int) := by omega
  have hr := HR.out q (by omega)
  rw [runeP_lt hqe] at hr
  clear hk hl
  generalize bt s q = c at *
  go_enter Tryz.func33, Tryz.ntmps33
  go_wp2_with fail
  refine HS.out.mono ?_
  rintro e w' ⟨rfl, rfl⟩
  go_wp2_with fail
  refine hr.mono ?_
  rintro e w' ⟨rfl, rfl⟩
  go_wp2_with fail
  all_goals
    refine (HN.out hqe).mono ?_
    rintro e w2 ⟨rfl, hb2⟩
    obtain ⟨r0, r1, r2, r3⟩ := four_kept1 hb2
    have hz0 := frozen_kept1 hb2 0
    have hz1 := frozen_kept1 hb2 1
    have hz2 := frozen_kept1 hb2 2
    have hz3 := frozen_kept1 hb2 3
    have HB2 := Aside0.mk (below_one hb2)
    clear hb2
    go_wp2_with fail
    refine bodyPost_ret (v := .tuple #[.agg #[.int .i64 15, .int .i64 q, .int .i64 (scan isNam s s.size (q + 1) : Nat), .string (s.extract q (scan isNam s s.size (q + 1)))], .nilIface]) (by simp [results, Tryz.results33, go_sem, r0, r1, r2, r3]) rfl ⟨below_four HB2.out, .inl ⟨_, H.out, by first | rfl | (simp [tokV]; done)⟩⟩
set_option maxRecDepth 100000 in
set_option maxHeartbeats 8000000 in
theorem tok_line (sb bb p q cap : Nat) (s : ByteArray) (w : World) (hb : BodyAt w bb s) (hcap : s.size ≤ cap) (hpl : Plain s) (hs : s.size ≤ 100000) (h0 : w.cell? ⟨sb, 0, none⟩ = some (.slice (some ⟨bb, 0, none⟩) s.size cap)) (hp : p ≤ s.size) (hq : scan isWs s s.size p = q) (hqe : q < s.size) (h1 : bt s q = 95) :
    Calls Tryz.prog 33 #[.pointer (some ⟨sb, 0, none⟩), .int .i64 p] w fun e w' => TokRes (mTokAt s q) w e w' := by
  have hsb : sb < w.heap.size := World.block_lt_of_cell? w _ h0
  have hBW : Below w.heap.size w (w.alloc (.cells #[.int .i64 0, .int .i64 0, .int .i64 0, .string ⟨#[]⟩] 68)) := below_alloc (Below.refl _ _) _
  have hbW := hb.below hBW
  have h0W := pw_cell_below hBW h0
  have HR := Aside0.mk (fun k => rune_plain bb k cap s _ hbW hcap hpl)
  have HS := Aside0.mk (ws_any bb p cap s _ hbW hcap hpl hp hs)
  have HE := Aside0.mk (fun msg pos => syntaxError_any sb bb cap pos s msg _ hbW h0W (by omega) hcap)
  have HN := Aside0.mk (fun hq2 => readName_any sb bb q cap s _ hbW hcap hpl hq2 hs h0W)
  have HM := Aside0.mk (fun hq2 => num_any sb bb q cap s _ hbW hcap hpl hs h0W hq2)
  have HQ := Aside0.mk (scan_all isWs rfl s p hp)
  have HP := Aside0.mk hpl
  rw [hq] at HS HQ
  have hqs : q ≤ s.size := HQ.out.2.1
  clear hb hbW h0W hBW hpl hq
  have H := Aside0.mk (show mTokAt s q = some ⟨15, q, scan isNam s s.size (q + 1), s.extract q (scan isNam s s.size (q + 1))⟩ by unfold mTokAt; rw [h1, if_neg (by omega), if_neg (by decide), if_neg (by decide), if_pos (by decide)])
  have hqi : (q : Int) < (s.size : Int) := by omega
  have hr := HR.out q (by omega)
  rw [runeP_lt hqe, h1] at hr
  clear h1
  go_enter Tryz.func33, Tryz.ntmps33
  go_wp2_with fail
  refine HS.out.mono ?_
  rintro e w' ⟨rfl, rfl⟩
  go_wp2_with fail
  refine hr.mono ?_
  rintro e w' ⟨rfl, rfl⟩
  go_wp2_with fail
  refine (HN.out hqe).mono ?_
  rintro e w2 ⟨rfl, hb2⟩
  obtain ⟨r0, r1, r2, r3⟩ := four_kept1 hb2
  have hz0 := frozen_kept1 hb2 0
  have hz1 := frozen_kept1 hb2 1
  have hz2 := frozen_kept1 hb2 2
  have hz3 := frozen_kept1 hb2 3
  have HB2 := Aside0.mk (below_one hb2)
  clear hb2
  go_wp2_with fail
  refine bodyPost_ret (v := .tuple #[.agg #[.int .i64 15, .int .i64 q, .int .i64 (scan isNam s s.size (q + 1) : Nat), .string (s.extract q (scan isNam s s.size (q + 1)))], .nilIface]) (by simp [results, Tryz.results33, go_sem, r0, r1, r2, r3]) rfl ⟨below_four HB2.out, .inl ⟨_, H.out, by first | rfl | (simp [tokV]; done)⟩⟩
end Go.Proofs.YthbinlnpipgobaaGreatDoor.Lx
namespace Go.Proofs.YthbinlnpipgobaaGreatDoor.Lx
set_option linter.unusedVariables false
set_option linter.unusedSimpArgs false
open Go.RowKit Go.Proofs.YthbinlnpipgobaaGreatDoorW.PrintWords Go.Proofs.YthbinlnpipgobaaGreatDoor.Keep Go.Proofs.YthbinlnpipgobaaGreatDoor.Mod Go.Proofs.YthbinlnpipgobaaGreatDoor.Sim Go.Proofs.YthbinlnpipgobaaGreatDoor.Four Go.Proofs.YthbinlnpipgobaaGreatDoor.Step Go.Proofs.YthbinlnpipgobaaGreatDoor.Env Go.Proofs.YthbinlnpipgobaaGreatDoor.Err

set_option maxRecDepth 100000 in
set_option maxHeartbeats 8000000 in
theorem tok_num (sb bb p q cap : Nat) (s : ByteArray) (w : World) (hb : BodyAt w bb s) (hcap : s.size ≤ cap) (hpl : Plain s) (hs : s.size ≤ 100000) (h0 : w.cell? ⟨sb, 0, none⟩ = some (.slice (some ⟨bb, 0, none⟩) s.size cap)) (hp : p ≤ s.size) (hq : scan isWs s s.size p = q) (hqe : q < s.size) (hd : bt s q = 45 ∨ isDig (bt s q) = true) :
    Calls Tryz.prog 33 #[.pointer (some ⟨sb, 0, none⟩), .int .i64 p] w fun e w' => TokRes (mTokAt s q) w e w' := by
  have hsb : sb < w.heap.size := World.block_lt_of_cell? w _ h0
  have hBW : Below w.heap.size w (w.alloc (.cells #[.int .i64 0, .int .i64 0, .int .i64 0, .string ⟨#[]⟩] 68)) := below_alloc (Below.refl _ _) _
  have hbW := hb.below hBW
  have h0W := pw_cell_below hBW h0
  have HR := Aside0.mk (fun k => rune_plain bb k cap s _ hbW hcap hpl)
  have HS := Aside0.mk (ws_any bb p cap s _ hbW hcap hpl hp hs)
  have HE := Aside0.mk (fun msg pos => syntaxError_any sb bb cap pos s msg _ hbW h0W (by omega) hcap)
  have HN := Aside0.mk (fun hq2 => readName_any sb bb q cap s _ hbW hcap hpl hq2 hs h0W)
  have HM := Aside0.mk (fun hq2 => num_any sb bb q cap s _ hbW hcap hpl hs h0W hq2)
  have HQ := Aside0.mk (scan_all isWs rfl s p hp)
  have HP := Aside0.mk hpl
  rw [hq] at HS HQ
  have hqs : q ≤ s.size := HQ.out.2.1
  clear hb hbW h0W hBW hpl hq
  have H := Aside0.mk (show mTokAt s q = mNum s q by
    have hk : ¬ signK (bt s q) ≠ 0 := by
      rcases hd with h | h
      · rw [h]; decide
      · have := isDig_iff.1 h
        unfold signK; omega
    have h46 : bt s q ≠ 46 := by
      rcases hd with h | h
      · omega
      · have := isDig_iff.1 h; omega
    have hl : ¬ isLet (bt s q) = true := by
      unfold isLet
      simp only [Bool.or_eq_true, Bool.and_eq_true, decide_eq_true_eq, beq_iff_eq]
      rcases hd with h | h
      · omega
      · have := isDig_iff.1 h; omega
    unfold mTokAt
    rw [if_neg (by omega), if_neg hk, if_neg h46, if_neg hl, if_pos hd])
  have hqi : (q : Int) < (s.size : Int) := by omega
  have hr := HR.out q (by omega)
  rw [runeP_lt hqe] at hr
  have hcs : bt s q = 45 ∨ (48 ≤ bt s q ∧ bt s q ≤ 57) := hd.imp id isDig_iff.1
  clear hd
  have HMN := Aside0.mk (HM.out hqe)
  clear HM
  obtain ⟨c, hc⟩ : ∃ c, bt s q = c := ⟨_, rfl⟩
  rw [hc] at hr hcs HMN
  clear hc
  rcases hcs with rfl | ⟨c1, c2⟩
  all_goals
    go_enter Tryz.func33, Tryz.ntmps33
    go_wp2_with fail
    refine HS.out.mono ?_
    rintro e w' ⟨rfl, rfl⟩
    go_wp2_with fail
    refine hr.mono ?_
    rintro e w' ⟨rfl, rfl⟩
    go_wp2_with fail
    all_goals
      refine HMN.out.mono ?_
      rintro e w2 ⟨hb2, h⟩
      rcases h with ⟨t, ht, rfl⟩ | ⟨hn, g, rfl⟩
      · obtain ⟨r0, r1, r2, r3⟩ := four_kept1 hb2
        have hz0 := frozen_kept1 hb2 0
        have hz1 := frozen_kept1 hb2 1
        have hz2 := frozen_kept1 hb2 2
        have hz3 := frozen_kept1 hb2 3
        have hlt : w.heap.size < w2.heap.size := by have h := hb2.size; simp only [World.size_alloc] at h; omega
        have HB2 := Aside0.mk (below_one hb2)
        have H2 := Aside0.mk ht
        clear hb2 ht
        go_wp2_with fail
        refine bodyPost_ret (v := .tuple #[tokV t, .nilIface]) (by simp [results, Tryz.results33, go_sem, r0, r1, r2, r3, tokV, hlt]) rfl ⟨?_, .inl ⟨t, H.out.trans H2.out, rfl⟩⟩
        exact below_alloc (below_four HB2.out) _
      · obtain ⟨r0, r1, r2, r3⟩ := four_kept1 hb2
        have hz0 := frozen_kept1 hb2 0
        have hz1 := frozen_kept1 hb2 1
        have hz2 := frozen_kept1 hb2 2
        have hz3 := frozen_kept1 hb2 3
        have hlt : w.heap.size < w2.heap.size := by have h := hb2.size; simp only [World.size_alloc] at h; omega
        have HB2 := Aside0.mk (below_one hb2)
        have H2 := Aside0.mk hn
        clear hb2 hn
        go_wp2_with fail
        refine bodyPost_ret (v := .tuple #[zeroT, errV g]) (by simp [results, Tryz.results33, go_sem, r0, r1, r2, r3, zeroT, errV, hlt]) rfl ⟨?_, .inr ⟨H.out.trans H2.out, g, rfl⟩⟩
        exact below_alloc (below_four HB2.out) _
end Go.Proofs.YthbinlnpipgobaaGreatDoor.Lx
