import Derived.Test.YthbinlnpipgobaaGreatDoorU03
namespace Go.Proofs.YthbinlnpipgobaaGreatDoor.Lx
set_option linter.unusedVariables false
set_option linter.unusedSimpArgs false
open Go.RowKit Go.Proofs.YthbinlnpipgobaaGreatDoorW.PrintWords Go.Proofs.YthbinlnpipgobaaGreatDoor.Keep Go.Proofs.YthbinlnpipgobaaGreatDoor.Mod Go.Proofs.YthbinlnpipgobaaGreatDoor.Sim Go.Proofs.YthbinlnpipgobaaGreatDoor.Four Go.Proofs.YthbinlnpipgobaaGreatDoor.Step Go.Proofs.YthbinlnpipgobaaGreatDoor.Env Go.Proofs.YthbinlnpipgobaaGreatDoor.Err

set_option maxRecDepth 100000 in
set_option maxHeartbeats 8000000 in
theorem tok_end (sb bb p q cap : Nat) (s : ByteArray) (w : World) (hb : BodyAt w bb s) (hcap : s.size ≤ cap) (hpl : Plain s) (hs : s.size ≤ 100000) (h0 : w.cell? ⟨sb, 0, none⟩ = some (.slice (some ⟨bb, 0, none⟩) s.size cap)) (hp : p ≤ s.size) (hq : scan isWs s s.size p = q) (hqe : s.size ≤ q) :
    Calls Tryz.prog 33 #[.pointer (some ⟨sb, 0, none⟩), .int .i64 p] w fun e w' => TokRes (mTokAt s q) w e w' := by
  have hsb : sb < w.heap.size := World.block_lt_of_cell? w _ h0
  have hBW : Below w.heap.size w (w.alloc (.cells #[.int .i64 0, .int .i64 0, .int .i64 0, .string ⟨#[]⟩] 68)) := below_alloc (Below.refl _ _) _
  have hbW := hb.below hBW
  have h0W := pw_cell_below hBW h0
  have HR := Aside0.mk (fun k => rune_plain bb k cap s _ hbW hcap hpl)
  have HS := Aside0.mk (ws_any bb p cap s _ hbW hcap hpl hp hs)
  have HE := Aside0.mk (fun msg pos => syntaxError_any sb bb cap pos s msg _ hbW h0W (by omega) hcap)
  have HN := Aside0.mk (fun hq2 => readName_any sb bb q cap s _ hbW hcap hpl hq2 hs h0W)
  have HM := Aside0.mk (fun hq2 => num_any sb bb q cap s _ hbW hcap hpl hs h0W hq2)
  have HQ := Aside0.mk (scan_all isWs rfl s p hp)
  have HP := Aside0.mk hpl
  rw [hq] at HS HQ
  have hqs : q ≤ s.size := HQ.out.2.1
  clear hb hbW h0W hBW hpl hq
  have H := Aside0.mk (show mTokAt s q = some ⟨1, q, q, ⟨#[]⟩⟩ by unfold mTokAt; rw [if_pos hqe])
  have hqi : (s.size : Int) ≤ (q : Int) := by omega
  go_enter Tryz.func33, Tryz.ntmps33
  go_wp2_with fail
  refine HS.out.mono ?_
  rintro e w' ⟨rfl, rfl⟩
  go_wp2_with fail
  refine (makeToken_any _ _ _ _ _).mono ?_
  rintro e w2 ⟨rfl, hb2⟩
  obtain ⟨r0, r1, r2, r3⟩ := four_kept1 hb2
  have hz0 := frozen_kept1 hb2 0
  have hz1 := frozen_kept1 hb2 1
  have hz2 := frozen_kept1 hb2 2
  have hz3 := frozen_kept1 hb2 3
  have HB2 := Aside0.mk (below_one hb2)
  clear hb2
  go_wp2_with fail
  refine bodyPost_ret (v := .tuple #[.agg #[.int .i64 1, .int .i64 q, .int .i64 q, .string ⟨#[]⟩], .nilIface]) (by simp [results, Tryz.results33, go_sem, r0, r1, r2, r3]) rfl ⟨below_four HB2.out, .inl ⟨_, H.out, by first | rfl | (simp [tokV]; done)⟩⟩
theorem sign_cases {c : Int} (h : signK c ≠ 0) : c = 33 ∨ c = 36 ∨ c = 38 ∨ c = 40 ∨ c = 41 ∨ c = 58 ∨ c = 61 ∨ c = 64 ∨ c = 91 ∨ c = 93 ∨ c = 123 ∨ c = 124 ∨ c = 125 := by
  unfold signK at h
  omega
set_option maxRecDepth 100000 in
set_option maxHeartbeats 8000000 in
theorem tok_sign (sb bb p q cap : Nat) (s : ByteArray) (w : World) (hb : BodyAt w bb s) (hcap : s.size ≤ cap) (hpl : Plain s) (hs : s.size ≤ 100000) (h0 : w.cell? ⟨sb, 0, none⟩ = some (.slice (some ⟨bb, 0, none⟩) s.size cap)) (hp : p ≤ s.size) (hq : scan isWs s s.size p = q) (hqe : q < s.size) (hk : signK (bt s q) ≠ 0) :
    Calls Tryz.prog 33 #[.pointer (some ⟨sb, 0, none⟩), .int .i64 p] w fun e w' => TokRes (mTokAt s q) w e w' := by
  have hsb : sb < w.heap.size := World.block_lt_of_cell? w _ h0
  have hBW : Below w.heap.size w (w.alloc (.cells #[.int .i64 0, .int .i64 0, .int .i64 0, .string ⟨#[]⟩] 68)) := below_alloc (Below.refl _ _) _
  have hbW := hb.below hBW
  have h0W := pw_cell_below hBW h0
  have HR := Aside0.mk (fun k => rune_plain bb k cap s _ hbW hcap hpl)
  have HS := Aside0.mk (ws_any bb p cap s _ hbW hcap hpl hp hs)
  have HE := Aside0.mk (fun msg pos => syntaxError_any sb bb cap pos s msg _ hbW h0W (by omega) hcap)
  have HN := Aside0.mk (fun hq2 => readName_any sb bb q cap s _ hbW hcap hpl hq2 hs h0W)
  have HM := Aside0.mk (fun hq2 => num_any sb bb q cap s _ hbW hcap hpl hs h0W hq2)
  have HQ := Aside0.mk (scan_all isWs rfl s p hp)
  have HP := Aside0.mk hpl
  rw [hq] at HS HQ
  have hqs : q ≤ s.size := HQ.out.2.1
  clear hb hbW h0W hBW hpl hq
  have H := Aside0.mk (show mTokAt s q = some ⟨signK (bt s q), q, q + 1, ⟨#[]⟩⟩ by unfold mTokAt; rw [if_neg (by omega), if_pos hk])
  have hqi : (q : Int) < (s.size : Int) := by omega
  have hr := HR.out q (by omega)
  rw [runeP_lt hqe] at hr
  have hcs := sign_cases hk
  clear hk
  generalize bt s q = c at *
  rcases hcs with rfl | rfl | rfl | rfl | rfl | rfl | rfl | rfl | rfl | rfl | rfl | rfl | rfl
  · go_enter Tryz.func33, Tryz.ntmps33
    go_wp2_with fail
    refine HS.out.mono ?_
    rintro e w' ⟨rfl, rfl⟩
    go_wp2_with fail
    refine hr.mono ?_
    rintro e w' ⟨rfl, rfl⟩
    go_wp2_with fail
    refine (makeToken_any _ _ _ _ _).mono ?_
    rintro e w2 ⟨rfl, hb2⟩
    obtain ⟨r0, r1, r2, r3⟩ := four_kept1 hb2
    have hz0 := frozen_kept1 hb2 0
    have hz1 := frozen_kept1 hb2 1
    have hz2 := frozen_kept1 hb2 2
    have hz3 := frozen_kept1 hb2 3
    have HB2 := Aside0.mk (below_one hb2)
    clear hb2
    go_wp2_with fail
    refine bodyPost_ret (v := .tuple #[.agg #[.int .i64 2, .int .i64 q, .int .i64 (q + 1), .string ⟨#[]⟩], .nilIface]) (by simp [results, Tryz.results33, go_sem, r0, r1, r2, r3]) rfl ⟨below_four HB2.out, .inl ⟨_, H.out, by first | rfl | (simp [tokV]; done)⟩⟩
  · go_enter Tryz.func33, Tryz.ntmps33
    go_wp2_with fail
    refine HS.out.mono ?_
    rintro e w' ⟨rfl, rfl⟩
    go_wp2_with fail
    refine hr.mono ?_
    rintro e w' ⟨rfl, rfl⟩
    go_wp2_with fail
    refine (makeToken_any _ _ _ _ _).mono ?_
    rintro e w2 ⟨rfl, hb2⟩
    obtain ⟨r0, r1, r2, r3⟩ := four_kept1 hb2
    have hz0 := frozen_kept1 hb2 0
    have hz1 := frozen_kept1 hb2 1
    have hz2 := frozen_kept1 hb2 2
    have hz3 := frozen_kept1 hb2 3
    have HB2 := Aside0.mk (below_one hb2)
    clear hb2
    go_wp2_with fail
    refine bodyPost_ret (v := .tuple #[.agg #[.int .i64 3, .int .i64 q, .int .i64 (q + 1), .string ⟨#[]⟩], .nilIface]) (by simp [results, Tryz.results33, go_sem, r0, r1, r2, r3]) rfl ⟨below_four HB2.out, .inl ⟨_, H.out, by first | rfl | (simp [tokV]; done)⟩⟩
  · go_enter Tryz.func33, Tryz.ntmps33
    go_wp2_with fail
    refine HS.out.mono ?_
    rintro e w' ⟨rfl, rfl⟩
    go_wp2_with fail
    refine hr.mono ?_
    rintro e w' ⟨rfl, rfl⟩
    go_wp2_with fail
    refine (makeToken_any _ _ _ _ _).mono ?_
    rintro e w2 ⟨rfl, hb2⟩
    obtain ⟨r0, r1, r2, r3⟩ := four_kept1 hb2
    have hz0 := frozen_kept1 hb2 0
    have hz1 := frozen_kept1 hb2 1
    have hz2 := frozen_kept1 hb2 2
    have hz3 := frozen_kept1 hb2 3
    have HB2 := Aside0.mk (below_one hb2)
    clear hb2
    go_wp2_with fail
    refine bodyPost_ret (v := .tuple #[.agg #[.int .i64 20, .int .i64 q, .int .i64 (q + 1), .string ⟨#[]⟩], .nilIface]) (by simp [results, Tryz.results33, go_sem, r0, r1, r2, r3]) rfl ⟨below_four HB2.out, .inl ⟨_, H.out, by first | rfl | (simp [tokV]; done)⟩⟩
  · go_enter Tryz.func33, Tryz.ntmps33
    go_wp2_with fail
    refine HS.out.mono ?_
    rintro e w' ⟨rfl, rfl⟩
    go_wp2_with fail
    refine hr.mono ?_
    rintro e w' ⟨rfl, rfl⟩
    go_wp2_with fail
    refine (makeToken_any _ _ _ _ _).mono ?_
    rintro e w2 ⟨rfl, hb2⟩
    obtain ⟨r0, r1, r2, r3⟩ := four_kept1 hb2
    have hz0 := frozen_kept1 hb2 0
    have hz1 := frozen_kept1 hb2 1
    have hz2 := frozen_kept1 hb2 2
    have hz3 := frozen_kept1 hb2 3
    have HB2 := Aside0.mk (below_one hb2)
    clear hb2
    go_wp2_with fail
    refine bodyPost_ret (v := .tuple #[.agg #[.int .i64 4, .int .i64 q, .int .i64 (q + 1), .string ⟨#[]⟩], .nilIface]) (by simp [results, Tryz.results33, go_sem, r0, r1, r2, r3]) rfl ⟨below_four HB2.out, .inl ⟨_, H.out, by first | rfl | (simp [tokV]; done)⟩⟩
  · go_enter Tryz.func33, Tryz.ntmps33
    go_wp2_with fail
    refine HS.out.mono ?_
    rintro e w' ⟨rfl, rfl⟩
    go_wp2_with fail
    refine hr.mono ?_
    rintro e w' ⟨rfl, rfl⟩
    go_wp2_with fail
    refine (makeToken_any _ _ _ _ _).mono ?_
    rintro e w2 ⟨rfl, hb2⟩
    obtain ⟨r0, r1, r2, r3⟩ := four_kept1 hb2
    have hz0 := frozen_kept1 hb2 0
    have hz1 := frozen_kept1 hb2 1
    have hz2 := frozen_kept1 hb2 2
    have hz3 := frozen_kept1 hb2 3
    have HB2 := Aside0.mk (below_one hb2)
    clear hb2
    go_wp2_with fail
    refine bodyPost_ret (v := .tuple #[.agg #[.int .i64 5, .int .i64 q, .int .i64 (q + 1), .string ⟨#[]⟩], .nilIface]) (by simp [results, Tryz.results33, go_sem, r0, r1, r2, r3]) rfl ⟨below_four HB2.out, .inl ⟨_, H.out, by first | rfl | (simp [tokV]; done)⟩⟩
  · go_enter Tryz.func33, Tryz.ntmps33
    go_wp2_with fail
    refine HS.out.mono ?_
    rintro e w' ⟨rfl, rfl⟩
    go_wp2_with fail
    refine hr.mono ?_
    rintro e w' ⟨rfl, rfl⟩
    go_wp2_with fail
    refine (makeToken_any _ _ _ _ _).mono ?_
    rintro e w2 ⟨rfl, hb2⟩
    obtain ⟨r0, r1, r2, r3⟩ := four_kept1 hb2
    have hz0 := frozen_kept1 hb2 0
    have hz1 := frozen_kept1 hb2 1
    have hz2 := frozen_kept1 hb2 2
    have hz3 := frozen_kept1 hb2 3
    have HB2 := Aside0.mk (below_one hb2)
    clear hb2
    go_wp2_with fail
    refine bodyPost_ret (v := .tuple #[.agg #[.int .i64 7, .int .i64 q, .int .i64 (q + 1), .string ⟨#[]⟩], .nilIface]) (by simp [results, Tryz.results33, go_sem, r0, r1, r2, r3]) rfl ⟨below_four HB2.out, .inl ⟨_, H.out, by first | rfl | (simp [tokV]; done)⟩⟩
  · go_enter Tryz.func33, Tryz.ntmps33
    go_wp2_with fail
    refine HS.out.mono ?_
    rintro e w' ⟨rfl, rfl⟩
    go_wp2_with fail
    refine hr.mono ?_
    rintro e w' ⟨rfl, rfl⟩
    go_wp2_with fail
    refine (makeToken_any _ _ _ _ _).mono ?_
    rintro e w2 ⟨rfl, hb2⟩
    obtain ⟨r0, r1, r2, r3⟩ := four_kept1 hb2
    have hz0 := frozen_kept1 hb2 0
    have hz1 := frozen_kept1 hb2 1
    have hz2 := frozen_kept1 hb2 2
    have hz3 := frozen_kept1 hb2 3
    have HB2 := Aside0.mk (below_one hb2)
    clear hb2
    go_wp2_with fail
    refine bodyPost_ret (v := .tuple #[.agg #[.int .i64 8, .int .i64 q, .int .i64 (q + 1), .string ⟨#[]⟩], .nilIface]) (by simp [results, Tryz.results33, go_sem, r0, r1, r2, r3]) rfl ⟨below_four HB2.out, .inl ⟨_, H.out, by first | rfl | (simp [tokV]; done)⟩⟩
  · go_enter Tryz.func33, Tryz.ntmps33
    go_wp2_with fail
    refine HS.out.mono ?_
    rintro e w' ⟨rfl, rfl⟩
    go_wp2_with fail
    refine hr.mono ?_
    rintro e w' ⟨rfl, rfl⟩
    go_wp2_with fail
    refine (makeToken_any _ _ _ _ _).mono ?_
    rintro e w2 ⟨rfl, hb2⟩
    obtain ⟨r0, r1, r2, r3⟩ := four_kept1 hb2
    have hz0 := frozen_kept1 hb2 0
    have hz1 := frozen_kept1 hb2 1
    have hz2 := frozen_kept1 hb2 2
    have hz3 := frozen_kept1 hb2 3
    have HB2 := Aside0.mk (below_one hb2)
    clear hb2
    go_wp2_with fail
    refine bodyPost_ret (v := .tuple #[.agg #[.int .i64 9, .int .i64 q, .int .i64 (q + 1), .string ⟨#[]⟩], .nilIface]) (by simp [results, Tryz.results33, go_sem, r0, r1, r2, r3]) rfl ⟨below_four HB2.out, .inl ⟨_, H.out, by first | rfl | (simp [tokV]; done)⟩⟩
  · go_enter Tryz.func33, Tryz.ntmps33
    go_wp2_with fail
    refine HS.out.mono ?_
    rintro e w' ⟨rfl, rfl⟩
    go_wp2_with fail
    refine hr.mono ?_
    rintro e w' ⟨rfl, rfl⟩
    go_wp2_with fail
    refine (makeToken_any _ _ _ _ _).mono ?_
    rintro e w2 ⟨rfl, hb2⟩
    obtain ⟨r0, r1, r2, r3⟩ := four_kept1 hb2
    have hz0 := frozen_kept1 hb2 0
    have hz1 := frozen_kept1 hb2 1
    have hz2 := frozen_kept1 hb2 2
    have hz3 := frozen_kept1 hb2 3
    have HB2 := Aside0.mk (below_one hb2)
    clear hb2
    go_wp2_with fail
    refine bodyPost_ret (v := .tuple #[.agg #[.int .i64 10, .int .i64 q, .int .i64 (q + 1), .string ⟨#[]⟩], .nilIface]) (by simp [results, Tryz.results33, go_sem, r0, r1, r2, r3]) rfl ⟨below_four HB2.out, .inl ⟨_, H.out, by first | rfl | (simp [tokV]; done)⟩⟩
  · go_enter Tryz.func33, Tryz.ntmps33
    go_wp2_with fail
    refine HS.out.mono ?_
    rintro e w' ⟨rfl, rfl⟩
    go_wp2_with fail
    refine hr.mono ?_
    rintro e w' ⟨rfl, rfl⟩
    go_wp2_with fail
    refine (makeToken_any _ _ _ _ _).mono ?_
    rintro e w2 ⟨rfl, hb2⟩
    obtain ⟨r0, r1, r2, r3⟩ := four_kept1 hb2
    have hz0 := frozen_kept1 hb2 0
    have hz1 := frozen_kept1 hb2 1
    have hz2 := frozen_kept1 hb2 2
    have hz3 := frozen_kept1 hb2 3
    have HB2 := Aside0.mk (below_one hb2)
    clear hb2
    go_wp2_with fail
    refine bodyPost_ret (v := .tuple #[.agg #[.int .i64 11, .int .i64 q, .int .i64 (q + 1), .string ⟨#[]⟩], .nilIface]) (by simp [results, Tryz.results33, go_sem, r0, r1, r2, r3]) rfl ⟨below_four HB2.out, .inl ⟨_, H.out, by first | rfl | (simp [tokV]; done)⟩⟩
  · go_enter Tryz.func33, Tryz.ntmps33
    go_wp2_with fail
    refine HS.out.mono ?_
    rintro e w' ⟨rfl, rfl⟩
    go_wp2_with fail
    refine hr.mono ?_
    rintro e w' ⟨rfl, rfl⟩
    go_wp2_with fail
    refine (makeToken_any _ _ _ _ _).mono ?_
    rintro e w2 ⟨rfl, hb2⟩
    obtain ⟨r0, r1, r2, r3⟩ := four_kept1 hb2
    have hz0 := frozen_kept1 hb2 0
    have hz1 := frozen_kept1 hb2 1
    have hz2 := frozen_kept1 hb2 2
    have hz3 := frozen_kept1 hb2 3
    have HB2 := Aside0.mk (below_one hb2)
    clear hb2
    go_wp2_with fail
    refine bodyPost_ret (v := .tuple #[.agg #[.int .i64 12, .int .i64 q, .int .i64 (q + 1), .string ⟨#[]⟩], .nilIface]) (by simp [results, Tryz.results33, go_sem, r0, r1, r2, r3]) rfl ⟨below_four HB2.out, .inl ⟨_, H.out, by first | rfl | (simp [tokV]; done)⟩⟩
  · go_enter Tryz.func33, Tryz.ntmps33
    go_wp2_with fail
    refine HS.out.mono ?_
    rintro e w' ⟨rfl, rfl⟩
    go_wp2_with fail
    refine hr.mono ?_
    rintro e w' ⟨rfl, rfl⟩
    go_wp2_with fail
    refine (makeToken_any _ _ _ _ _).mono ?_
    rintro e w2 ⟨rfl, hb2⟩
    obtain ⟨r0, r1, r2, r3⟩ := four_kept1 hb2
    have hz0 := frozen_kept1 hb2 0
    have hz1 := frozen_kept1 hb2 1
    have hz2 := frozen_kept1 hb2 2
    have hz3 := frozen_kept1 hb2 3
    have HB2 := Aside0.mk (below_one hb2)
    clear hb2
    go_wp2_with fail
    refine bodyPost_ret (v := .tuple #[.agg #[.int .i64 13, .int .i64 q, .int .i64 (q + 1), .string ⟨#[]⟩], .nilIface]) (by simp [results, Tryz.results33, go_sem, r0, r1, r2, r3]) rfl ⟨below_four HB2.out, .inl ⟨_, H.out, by first | rfl | (simp [tokV]; done)⟩⟩
  · go_enter Tryz.func33, Tryz.ntmps33
    go_wp2_with fail
    refine HS.out.mono ?_
    rintro e w' ⟨rfl, rfl⟩
    go_wp2_with fail
    refine hr.mono ?_
    rintro e w' ⟨rfl, rfl⟩
    go_wp2_with fail
    refine (makeToken_any _ _ _ _ _).mono ?_
    rintro e w2 ⟨rfl, hb2⟩
    obtain ⟨r0, r1, r2, r3⟩ := four_kept1 hb2
    have hz0 := frozen_kept1 hb2 0
    have hz1 := frozen_kept1 hb2 1
    have hz2 := frozen_kept1 hb2 2
    have hz3 := frozen_kept1 hb2 3
    have HB2 := Aside0.mk (below_one hb2)
    clear hb2
    go_wp2_with fail
    refine bodyPost_ret (v := .tuple #[.agg #[.int .i64 14, .int .i64 q, .int .i64 (q + 1), .string ⟨#[]⟩], .nilIface]) (by simp [results, Tryz.results33, go_sem, r0, r1, r2, r3]) rfl ⟨below_four HB2.out, .inl ⟨_, H.out, by first | rfl | (simp [tokV]; done)⟩⟩
end Go.Proofs.YthbinlnpipgobaaGreatDoor.Lx
