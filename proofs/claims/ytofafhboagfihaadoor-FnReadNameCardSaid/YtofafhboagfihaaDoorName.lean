import Derived.Test.YtofafhboagfihaaDoorRune
import Derived.Test.YtofafhboagfihaaDoorLexE
import Derived.Lib.SlBytesRow
import Derived.Lib.ConvBytes
namespace Go.Proofs.YtofafhboagfihaaDoor.Rune
open Go.RowKit Go.Proofs.YtofafhboagfihaaDoor.Mem Go.Proofs.YtofafhboagfihaaDoor.Lex Go.Proofs.YtofafhboagfihaaDoorW.PrintWords

theorem BodyAt.bytes {w : World} {bb : Nat} {s : ByteArray} (h : BodyAt w bb s) : Lib.Bytes w bb 0 s := fun i hi => by
  rw [Nat.zero_add, h i hi, ← bt_nat s i hi]

theorem decodeN_big (n b0 b1 b2 b3 : Nat) (h : 128 ≤ b0) : 128 ≤ (Lib.decodeN n b0 b1 b2 b3).1 := by
  unfold Lib.decodeN
  repeat' split
  all_goals (first | omega | (simp only []; omega) | (dsimp only; omega))

theorem decodeGo_big (s : ByteArray) (h0 : 0 < s.size) (h : 128 ≤ bt s 0) : 128 ≤ (Lib.decodeGo s).1 := by
  unfold Lib.decodeGo
  rw [if_neg (by omega), Lib.decode_at]
  refine decodeN_big _ _ _ _ _ ?_
  have h1 := bt_get s 0 h0
  simp only [Int.cast_ofNat_Int] at h1
  omega

theorem runeOf_ascii (s : ByteArray) (p : Nat) (hp : p < s.size) (h : bt s p < 128) : runeOf s p = (bt s p, 1) := by
  unfold runeOf
  rw [if_neg (by omega), if_pos h]

theorem runeOf_big (s : ByteArray) (p : Nat) (hp : p < s.size) (h : ¬ bt s p < 128) : 128 ≤ (runeOf s p).1 := by
  unfold runeOf
  rw [if_neg (by omega), if_neg h]
  have hsz : (s.extract p s.size).size = s.size - p := by rw [ByteArray.size_extract]; omega
  have h2 := decodeGo_big (s.extract p s.size) (by omega) (by
    have e : bt (s.extract p s.size) 0 = bt s p := by
      have a1 := bt_nat (s.extract p s.size) 0 (by omega)
      have a2 := ByteArray.getElem_extract (b := s) (start := p) (stop := s.size) (i := 0) (by omega)
      have a3 := bt_nat s p hp
      simp only [Nat.add_zero] at a2
      rw [a2] at a1
      simp only [Int.cast_ofNat_Int] at a1
      rw [← a1, a3]
    rw [e]; omega)
  show (128 : Int) ≤ ((Lib.decodeGo (s.extract p s.size)).1 : Int)
  omega

/-- What stands behind a name is no part of it, as a rune either. -/
theorem rune_stop (s : ByteArray) (q : Nat) (hq : q < s.size) (h : inNameB (bt s q) = false) : inNameB (runeOf s q).1 = false := by
  by_cases h1 : bt s q < 128
  · rw [runeOf_ascii s q hq h1]; exact h
  · have h2 := runeOf_big s q hq h1
    unfold inNameB isBeginB isDigitB
    rw [Bool.or_eq_false_iff]
    exact ⟨decide_eq_false (by omega), decide_eq_false (by omega)⟩

theorem inName_cases (c : Int) (h : inNameB c = true) : c = 95 ∨ (48 ≤ c ∧ c ≤ 57) ∨ (65 ≤ c ∧ c ≤ 90) ∨ (97 ≤ c ∧ c ≤ 122) := by
  unfold inNameB at h
  rw [Bool.or_eq_true] at h
  rcases h with h | h
  · have := of_decide_eq_true h; omega
  · have := of_decide_eq_true h; omega
theorem inName_not (c : Int) (h : inNameB c = false) : c < 48 ∨ (57 < c ∧ c < 65) ∨ (90 < c ∧ c < 95) ∨ c = 96 ∨ 122 < c := by
  unfold inNameB at h
  rw [Bool.or_eq_false_iff] at h
  have h1 := of_decide_eq_false h.1
  have h2 := of_decide_eq_false h.2
  omega

theorem utf8_below {w w' : World} (h : Lib.Utf8Tabs 0 1 w) (hb : Below w.heap.size w w') : Lib.Utf8Tabs 0 1 w' := Utf8Tabs_below h hb

/-- What a step of the lexer reads: the text's bytes, and the tables of unicode/utf8. -/
structure Src (w : World) (bb : Nat) (s : ByteArray) : Prop where
  body : BodyAt w bb s
  tabs : Lib.Utf8Tabs 0 1 w
theorem Src.below {w w' : World} {bb : Nat} {s : ByteArray} (h : Src w bb s) (hb : Below w.heap.size w w') : Src w' bb s := ⟨h.body.below hb, utf8_below h.tabs hb⟩
theorem Src.alloc {w : World} {bb : Nat} {s : ByteArray} (h : Src w bb s) (o : Obj) : Src (w.alloc o) bb s := h.below (below_alloc (Below.refl _ _) o)

theorem rune_src {w : World} {bb : Nat} {s : ByteArray} (h : Src w bb s) (p cap : Nat) (hcap : s.size ≤ cap) (hp : p ≤ 281474976710656) :
    Calls Tryd.prog 32 #[.slice (some ⟨bb, 0, none⟩) s.size cap, .int .i64 p] w fun e w' =>
      e = .returned (.tuple #[.int .i32 (runeOf s p).1, .int .i64 (runeOf s p).2]) ∧ Below w.heap.size w w' := runeAt_any bb p cap s w h.tabs h.body hcap hp

theorem four_kept2 {w w1 : World} {t : TypeId} {x0 x1 x2 x3 : Value} (hb : Below (w.heap.size + 1) (w.alloc (.cells #[x0, x1, x2, x3] t)) w1) :
    w1.cell? ⟨w.heap.size, 0, none⟩ = some x0 ∧ w1.cell? ⟨w.heap.size, 1, none⟩ = some x1 ∧ w1.cell? ⟨w.heap.size, 2, none⟩ = some x2 ∧ w1.cell? ⟨w.heap.size, 3, none⟩ = some x3 := four_kept1 (by simpa using hb)
theorem frozen_kept2 {w w1 : World} {t : TypeId} {x0 x1 x2 x3 : Value} (hb : Below (w.heap.size + 1) (w.alloc (.cells #[x0, x1, x2, x3] t)) w1) (j : Nat) :
    w1.frozen? ⟨w.heap.size, j, none⟩ = false := frozen_kept1 (by simpa using hb) j
set_option maxHeartbeats 1000000 in
theorem makeToken_any (k a b : Int) (v : ByteArray) (w : World) :
    Calls Tryd.prog 33 #[.int .i64 k, .int .i64 a, .int .i64 b, .string v] w fun e w' => e = .returned (.agg #[.int .i64 k, .int .i64 a, .int .i64 b, .string v]) ∧ Below w.heap.size w w' := by
  go_enter Tryd.func33, Tryd.ntmps33
  go_wp2
  refine bodyPost_ret (v := .agg #[.int .i64 k, .int .i64 a, .int .i64 b, .string v]) (by simp [results, Tryd.results33, go_sem]) rfl ⟨rfl, ?_⟩
  exact below_alloc (Below.refl _ _) _
theorem conv_part {w : World} {bb : Nat} {s : ByteArray} (h : Src w bb s) (p q cap : Nat) (hpq : p ≤ q) (hq : q ≤ s.size) :
    (convert 50 9 (.slice (some ⟨bb, p, none⟩) (q - p) (cap - p))).run Tryd.prog w = .ok (.string (s.extract p q)) w := by
  have h2 := Lib.run_convert_window (P := Tryd.prog) w 50 5 9 Tryd.underlying50 Tryd.underlying5 Tryd.underlying9 bb 0 s h.body.bytes p (q - p) (cap - p) (by omega)
  rw [Nat.zero_add, show p + (q - p) = q by omega] at h2
  exact h2

set_option maxRecDepth 100000 in
set_option maxHeartbeats 4000000 in
theorem readName_any (sb bb p q cap : Nat) (rp : Int) (s : ByteArray) (w : World) (hS : Src w bb s) (h0 : w.cell? ⟨sb, 0, none⟩ = some (.slice (some ⟨bb, 0, none⟩) s.size cap))
    (hs : s.size ≤ 140737488351232) (hcap : s.size ≤ cap) (hpq : p < q) (hq : q ≤ s.size) (hrp : 0 ≤ rp ∧ rp ≤ 281474976710656)
    (hin : ∀ i : Nat, p < i → i < q → inNameB (bt s i) = true) (hout : q < s.size → inNameB (bt s q) = false) :
    Calls Tryd.prog 26 #[.pointer (some ⟨sb, 0, none⟩), .int .i64 p, .int .i64 rp] w fun e w' =>
      e = .returned (.agg #[.int .i64 15, .int .i64 rp, .int .i64 (rp + (q - p : Nat)), .string (s.extract p q)]) ∧ Below w.heap.size w w' := by
  have hsb : sb < w.heap.size := World.block_lt_of_cell? w _ h0
  have HS := Aside0.mk hS
  have hIN := Aside0.mk hin
  have hOUT := Aside0.mk hout
  clear hS hin hout
  go_enter Tryd.func26, Tryd.ntmps26
  go_wp2_with fail
  go_loopw [9, 10] (fun i j wr => ∃ k : Nat, p < k ∧ k ≤ q ∧ i = .int .i64 k ∧ j = .int .i64 (rp + (k - p : Nat)) ∧ Below (w.heap.size + 1) (w.alloc (.cells #[.int .i64 0, .int .i64 0, .int .i64 0, .string ⟨#[]⟩] 37)) wr) (fun i _ _ => q - (intOf i).toNat)
  case atStart => exact ⟨p + 1, by omega, by omega, by go_num, by go_num, Below.refl _ _⟩
  case round =>
    obtain ⟨k, hk1, hk2, rfl, rfl, hB⟩ := hrel
    have hsz := hB.size
    simp only [World.size_alloc] at hsz
    have HSr : Src wr bb s := (HS.out.alloc _).below (by simpa using hB)
    have HR := Aside0.mk (rune_src HSr k cap hcap (by omega))
    have HB := Aside0.mk hB
    clear hB
    by_cases hlt : k < q
    · have hn := hIN.out k hk1 hlt
      have hcs := inName_cases _ hn
      have hasc : runeOf s k = (bt s k, 1) := runeOf_ascii s k (by omega) (by omega)
      rw [hasc] at HR
      clear hasc hn
      have hkn : ((k : Int) != (s.size : Int)) = true := by rw [bne_iff_ne]; omega
      generalize bt s k = c at *
      rcases hcs with rfl | ⟨c1, c2⟩ | ⟨c1, c2⟩ | ⟨c1, c2⟩
      all_goals
        go_wp2_with (go_at_call 32; refine (HR.out).mono ?_; rintro e w' ⟨rfl, hb'⟩)
        go_roundw
        case rel => exact ⟨k + 1, by omega, by omega, by go_num, by go_num, HB.out.trans (hb'.mono (by omega))⟩
        case measure => simp [intOf]; omega
    · obtain rfl : k = q := by omega
      clear hlt
      by_cases hend : k = s.size
      · have hkn : ((k : Int) != (s.size : Int)) = false := by rw [bne_eq_false_iff_eq]; omega
        have hkn2 : ((k : Nat) != s.size) = false := by rw [bne_eq_false_iff_eq]; omega
        clear hend
        go_wp2_with (first | (go_at_call 32; refine (HR.out).mono ?_; rintro e w' ⟨rfl, hb'⟩; have hcv := conv_part (HSr.below hb') p k cap (by omega) (by omega)) | (go_at_call 33; refine (makeToken_any _ _ _ _ _).mono ?_; rintro e w2 ⟨rfl, hb2⟩; have hb3 := (HB.out.trans (hb'.mono (by omega))).trans (hb2.mono (by have := hb'.size; omega)); obtain ⟨r0, r1, r2, r3⟩ := four_kept2 hb3; have hz0 := frozen_kept2 hb3 0; have hz1 := frozen_kept2 hb3 1; have hz2 := frozen_kept2 hb3 2; have hz3 := frozen_kept2 hb3 3))
        refine bodyPost_ret (v := .agg #[.int .i64 15, .int .i64 rp, .int .i64 (rp + (k - p : Nat)), .string (s.extract p k)]) (by simp [results, Tryd.results26, go_sem, r0, r1, r2, r3]) rfl ⟨rfl, ?_⟩
        exact below_four (below_one (by simpa using hb3))
      · have hkn : ((k : Int) != (s.size : Int)) = true := by rw [bne_iff_ne]; omega
        have hst := inName_not _ (rune_stop s k (by omega) (hOUT.out (by omega)))
        generalize (runeOf s k).1 = c at *
        generalize (runeOf s k).2 = c' at *
        rcases hst with c1 | ⟨c1, c2⟩ | ⟨c1, c2⟩ | rfl | c1
        · skip
          have f0 : (c == 95) = false := beq_eq_false_iff_ne.2 (by omega)
          have f1 : decide (48 ≤ c) = false := decide_eq_false (by omega)
          have f2 : decide (65 ≤ c) = false := decide_eq_false (by omega)
          have f3 : decide (97 ≤ c) = false := decide_eq_false (by omega)
          go_wp2_with (first | (go_at_call 32; refine (HR.out).mono ?_; rintro e w' ⟨rfl, hb'⟩; have hcv := conv_part (HSr.below hb') p k cap (by omega) (by omega)) | (go_at_call 33; refine (makeToken_any _ _ _ _ _).mono ?_; rintro e w2 ⟨rfl, hb2⟩; have hb3 := (HB.out.trans (hb'.mono (by omega))).trans (hb2.mono (by have := hb'.size; omega)); obtain ⟨r0, r1, r2, r3⟩ := four_kept2 hb3; have hz0 := frozen_kept2 hb3 0; have hz1 := frozen_kept2 hb3 1; have hz2 := frozen_kept2 hb3 2; have hz3 := frozen_kept2 hb3 3))
          refine bodyPost_ret (v := .agg #[.int .i64 15, .int .i64 rp, .int .i64 (rp + (k - p : Nat)), .string (s.extract p k)]) (by simp [results, Tryd.results26, go_sem, r0, r1, r2, r3]) rfl ⟨rfl, ?_⟩
          exact below_four (below_one (by simpa using hb3))
        · skip
          have f0 : (c == 95) = false := beq_eq_false_iff_ne.2 (by omega)
          have f1 : decide (48 ≤ c) = true := decide_eq_true (by omega)
          have f2 : decide (c ≤ 57) = false := decide_eq_false (by omega)
          have f3 : decide (65 ≤ c) = false := decide_eq_false (by omega)
          have f4 : decide (97 ≤ c) = false := decide_eq_false (by omega)
          go_wp2_with (first | (go_at_call 32; refine (HR.out).mono ?_; rintro e w' ⟨rfl, hb'⟩; have hcv := conv_part (HSr.below hb') p k cap (by omega) (by omega)) | (go_at_call 33; refine (makeToken_any _ _ _ _ _).mono ?_; rintro e w2 ⟨rfl, hb2⟩; have hb3 := (HB.out.trans (hb'.mono (by omega))).trans (hb2.mono (by have := hb'.size; omega)); obtain ⟨r0, r1, r2, r3⟩ := four_kept2 hb3; have hz0 := frozen_kept2 hb3 0; have hz1 := frozen_kept2 hb3 1; have hz2 := frozen_kept2 hb3 2; have hz3 := frozen_kept2 hb3 3))
          refine bodyPost_ret (v := .agg #[.int .i64 15, .int .i64 rp, .int .i64 (rp + (k - p : Nat)), .string (s.extract p k)]) (by simp [results, Tryd.results26, go_sem, r0, r1, r2, r3]) rfl ⟨rfl, ?_⟩
          exact below_four (below_one (by simpa using hb3))
        · skip
          have f0 : (c == 95) = false := beq_eq_false_iff_ne.2 (by omega)
          have f1 : decide (48 ≤ c) = true := decide_eq_true (by omega)
          have f2 : decide (c ≤ 57) = false := decide_eq_false (by omega)
          have f3 : decide (65 ≤ c) = true := decide_eq_true (by omega)
          have f4 : decide (c ≤ 90) = false := decide_eq_false (by omega)
          have f5 : decide (97 ≤ c) = false := decide_eq_false (by omega)
          go_wp2_with (first | (go_at_call 32; refine (HR.out).mono ?_; rintro e w' ⟨rfl, hb'⟩; have hcv := conv_part (HSr.below hb') p k cap (by omega) (by omega)) | (go_at_call 33; refine (makeToken_any _ _ _ _ _).mono ?_; rintro e w2 ⟨rfl, hb2⟩; have hb3 := (HB.out.trans (hb'.mono (by omega))).trans (hb2.mono (by have := hb'.size; omega)); obtain ⟨r0, r1, r2, r3⟩ := four_kept2 hb3; have hz0 := frozen_kept2 hb3 0; have hz1 := frozen_kept2 hb3 1; have hz2 := frozen_kept2 hb3 2; have hz3 := frozen_kept2 hb3 3))
          refine bodyPost_ret (v := .agg #[.int .i64 15, .int .i64 rp, .int .i64 (rp + (k - p : Nat)), .string (s.extract p k)]) (by simp [results, Tryd.results26, go_sem, r0, r1, r2, r3]) rfl ⟨rfl, ?_⟩
          exact below_four (below_one (by simpa using hb3))
        · skip
          go_wp2_with (first | (go_at_call 32; refine (HR.out).mono ?_; rintro e w' ⟨rfl, hb'⟩; have hcv := conv_part (HSr.below hb') p k cap (by omega) (by omega)) | (go_at_call 33; refine (makeToken_any _ _ _ _ _).mono ?_; rintro e w2 ⟨rfl, hb2⟩; have hb3 := (HB.out.trans (hb'.mono (by omega))).trans (hb2.mono (by have := hb'.size; omega)); obtain ⟨r0, r1, r2, r3⟩ := four_kept2 hb3; have hz0 := frozen_kept2 hb3 0; have hz1 := frozen_kept2 hb3 1; have hz2 := frozen_kept2 hb3 2; have hz3 := frozen_kept2 hb3 3))
          refine bodyPost_ret (v := .agg #[.int .i64 15, .int .i64 rp, .int .i64 (rp + (k - p : Nat)), .string (s.extract p k)]) (by simp [results, Tryd.results26, go_sem, r0, r1, r2, r3]) rfl ⟨rfl, ?_⟩
          exact below_four (below_one (by simpa using hb3))
        · skip
          have f0 : (c == 95) = false := beq_eq_false_iff_ne.2 (by omega)
          have f1 : decide (48 ≤ c) = true := decide_eq_true (by omega)
          have f2 : decide (c ≤ 57) = false := decide_eq_false (by omega)
          have f3 : decide (65 ≤ c) = true := decide_eq_true (by omega)
          have f4 : decide (c ≤ 90) = false := decide_eq_false (by omega)
          have f5 : decide (97 ≤ c) = true := decide_eq_true (by omega)
          have f6 : decide (c ≤ 122) = false := decide_eq_false (by omega)
          go_wp2_with (first | (go_at_call 32; refine (HR.out).mono ?_; rintro e w' ⟨rfl, hb'⟩; have hcv := conv_part (HSr.below hb') p k cap (by omega) (by omega)) | (go_at_call 33; refine (makeToken_any _ _ _ _ _).mono ?_; rintro e w2 ⟨rfl, hb2⟩; have hb3 := (HB.out.trans (hb'.mono (by omega))).trans (hb2.mono (by have := hb'.size; omega)); obtain ⟨r0, r1, r2, r3⟩ := four_kept2 hb3; have hz0 := frozen_kept2 hb3 0; have hz1 := frozen_kept2 hb3 1; have hz2 := frozen_kept2 hb3 2; have hz3 := frozen_kept2 hb3 3))
          refine bodyPost_ret (v := .agg #[.int .i64 15, .int .i64 rp, .int .i64 (rp + (k - p : Nat)), .string (s.extract p k)]) (by simp [results, Tryd.results26, go_sem, r0, r1, r2, r3]) rfl ⟨rfl, ?_⟩
          exact below_four (below_one (by simpa using hb3))
end Go.Proofs.YtofafhboagfihaaDoor.Rune
