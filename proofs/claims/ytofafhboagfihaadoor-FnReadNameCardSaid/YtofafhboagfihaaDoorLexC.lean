import Derived.Test.YtofafhboagfihaaDoorLexB
import Derived.Outline
import Derived.Deep.RegionWith
import Derived.BigRegion
namespace Go.Proofs.YtofafhboagfihaaDoor.Lex
open Go.RowKit Go.Proofs.YtofafhboagfihaaDoor.Mem Go.Proofs.YtofafhboagfihaaDoorW.PrintWords

/-- The kind of a sign of one byte; 0 of none. -/
def signOf (c : Int) : Int := if c = 33 then 2 else if c = 36 then 3 else if c = 40 then 4 else if c = 41 then 5 else if c = 58 then 7 else if c = 61 then 8 else if c = 64 then 9 else if c = 91 then 10 else if c = 93 then 11 else if c = 123 then 12 else if c = 124 then 13 else if c = 125 then 14 else if c = 38 then 20 else 0
theorem signOf_begin (c : Int) (h : isBeginB c = true) : signOf c = 0 := by
  have h' := of_decide_eq_true h
  unfold signOf
  rw [if_neg (by omega), if_neg (by omega), if_neg (by omega), if_neg (by omega), if_neg (by omega), if_neg (by omega), if_neg (by omega), if_neg (by omega), if_neg (by omega), if_neg (by omega), if_neg (by omega), if_neg (by omega), if_neg (by omega)]
set_option maxHeartbeats 1000000 in
theorem sign_any (c : Int) (w : World) :
    Calls Tryd.prog 19 #[.int .u8 c] w fun e w' => e = .returned (.int .i64 (signOf c)) ∧ w = w' := by
  by_cases h33 : c = 33
  · subst h33
    go_enter Tryd.func19, Tryd.ntmps19
    go_wp2
    go_ret
    exact ⟨rfl, rfl⟩
  by_cases h36 : c = 36
  · subst h36
    go_enter Tryd.func19, Tryd.ntmps19
    go_wp2
    go_ret
    exact ⟨rfl, rfl⟩
  by_cases h40 : c = 40
  · subst h40
    go_enter Tryd.func19, Tryd.ntmps19
    go_wp2
    go_ret
    exact ⟨rfl, rfl⟩
  by_cases h41 : c = 41
  · subst h41
    go_enter Tryd.func19, Tryd.ntmps19
    go_wp2
    go_ret
    exact ⟨rfl, rfl⟩
  by_cases h58 : c = 58
  · subst h58
    go_enter Tryd.func19, Tryd.ntmps19
    go_wp2
    go_ret
    exact ⟨rfl, rfl⟩
  by_cases h61 : c = 61
  · subst h61
    go_enter Tryd.func19, Tryd.ntmps19
    go_wp2
    go_ret
    exact ⟨rfl, rfl⟩
  by_cases h64 : c = 64
  · subst h64
    go_enter Tryd.func19, Tryd.ntmps19
    go_wp2
    go_ret
    exact ⟨rfl, rfl⟩
  by_cases h91 : c = 91
  · subst h91
    go_enter Tryd.func19, Tryd.ntmps19
    go_wp2
    go_ret
    exact ⟨rfl, rfl⟩
  by_cases h93 : c = 93
  · subst h93
    go_enter Tryd.func19, Tryd.ntmps19
    go_wp2
    go_ret
    exact ⟨rfl, rfl⟩
  by_cases h123 : c = 123
  · subst h123
    go_enter Tryd.func19, Tryd.ntmps19
    go_wp2
    go_ret
    exact ⟨rfl, rfl⟩
  by_cases h124 : c = 124
  · subst h124
    go_enter Tryd.func19, Tryd.ntmps19
    go_wp2
    go_ret
    exact ⟨rfl, rfl⟩
  by_cases h125 : c = 125
  · subst h125
    go_enter Tryd.func19, Tryd.ntmps19
    go_wp2
    go_ret
    exact ⟨rfl, rfl⟩
  by_cases h38 : c = 38
  · subst h38
    go_enter Tryd.func19, Tryd.ntmps19
    go_wp2
    go_ret
    exact ⟨rfl, rfl⟩
  have E := Aside0.mk (show signOf c = 0 by unfold signOf; rw [if_neg h33, if_neg h36, if_neg h40, if_neg h41, if_neg h58, if_neg h61, if_neg h64, if_neg h91, if_neg h93, if_neg h123, if_neg h124, if_neg h125, if_neg h38])
  go_enter Tryd.func19, Tryd.ntmps19
  go_wp2
  go_ret
  exact ⟨ret_int (by rw [E.out]), rfl⟩

/-- Whether a byte may stand in a name behind its first one. -/
def inNameB (c : Int) : Bool := isBeginB c || isDigitB c

theorem toList_inj {s t : ByteArray} (h : s.toList = t.toList) : s = t := by
  rw [Lib.toList_data, Lib.toList_data] at h
  exact ByteArray.ext (Array.toList_inj.1 h)

theorem extract_one (s t : ByteArray) (p : Nat) (hp : p < s.size) (ht : 0 < t.size) (hne : bt s p ≠ bt t 0) : startsB s p t = false := by
  unfold startsB
  by_cases h : p + t.size ≤ s.size
  · rw [decide_eq_true h, Bool.true_and, beq_eq_false_iff_ne]
    intro e
    apply hne
    have e2 : s.extract p (p + t.size) = t := toList_inj e
    unfold bt
    rw [dif_pos (by simpa using hp), dif_pos (by simpa using ht)]
    have h0 : 0 < (s.extract p (p + t.size)).size := by rw [e2]; exact ht
    have e3 := ByteArray.getElem_extract (i := 0) (b := s) (start := p) (stop := p + t.size) h0
    simp only [e2, Nat.add_zero] at e3
    simp [e3]
  · rw [decide_eq_false h]; rfl

abbrev bom : ByteArray := ⟨#[239, 187, 191]⟩
abbrev dots : ByteArray := ⟨#[46, 46, 46]⟩
abbrev quotes : ByteArray := ⟨#[34, 34, 34]⟩
theorem bt_bom : bt bom 0 = 239 := by decide +kernel
theorem bt_dots : bt dots 0 = 46 := by decide +kernel
theorem bt_quotes : bt quotes 0 = 34 := by decide +kernel
theorem bt_nat (s : ByteArray) (p : Nat) : ∀ h : p < s.size, ((s[p]'h).toNat : Int) = bt s p := fun h => by simp [bt, h]

theorem starts_no (s t : ByteArray) (p : Nat) (w : World) (hs : s.size ≤ 140737488351232) (ht : t.size ≤ 140737488351232) (hp : p ≤ s.size) (h : startsB s p t = false) :
    Calls Tryd.prog 16 #[.string s, .int .i64 p, .string t] w fun e w' => e = .returned (.bool false) ∧ w = w' :=
  (starts_any s t p w hs ht hp).mono fun _ _ ⟨h1, h2⟩ => ⟨by rw [h1, h], h2⟩
theorem starts_yes (s t : ByteArray) (p : Nat) (w : World) (hs : s.size ≤ 140737488351232) (ht : t.size ≤ 140737488351232) (hp : p ≤ s.size) (h : startsB s p t = true) :
    Calls Tryd.prog 16 #[.string s, .int .i64 p, .string t] w fun e w' => e = .returned (.bool true) ∧ w = w' :=
  (starts_any s t p w hs ht hp).mono fun _ _ ⟨h1, h2⟩ => ⟨by rw [h1, h], h2⟩
theorem sign_zero (c : Int) (w : World) (h : signOf c = 0) :
    Calls Tryd.prog 19 #[.int .u8 c] w fun e w' => e = .returned (.int .i64 0) ∧ w = w' :=
  (sign_any c w).mono fun _ _ ⟨h1, h2⟩ => ⟨by rw [h1, h], h2⟩
theorem isBegin_yes (c : Int) (w : World) (h : isBeginB c = true) :
    Calls Tryd.prog 10 #[.int .u8 c] w fun e w' => e = .returned (.bool true) ∧ w = w' :=
  (isBegin_any c w).mono fun _ _ ⟨h1, h2⟩ => ⟨by rw [h1, h], h2⟩
theorem isBegin_no (c : Int) (w : World) (h : isBeginB c = false) :
    Calls Tryd.prog 10 #[.int .u8 c] w fun e w' => e = .returned (.bool false) ∧ w = w' :=
  (isBegin_any c w).mono fun _ _ ⟨h1, h2⟩ => ⟨by rw [h1, h], h2⟩
theorem isDigit_yes (c : Int) (w : World) (h : isDigitB c = true) :
    Calls Tryd.prog 21 #[.int .u8 c] w fun e w' => e = .returned (.bool true) ∧ w = w' :=
  (isDigit_any c w).mono fun _ _ ⟨h1, h2⟩ => ⟨by rw [h1, h], h2⟩
theorem isDigit_no (c : Int) (w : World) (h : isDigitB c = false) :
    Calls Tryd.prog 21 #[.int .u8 c] w fun e w' => e = .returned (.bool false) ∧ w = w' :=
  (isDigit_any c w).mono fun _ _ ⟨h1, h2⟩ => ⟨by rw [h1, h], h2⟩

set_option maxRecDepth 100000 in
set_option maxHeartbeats 3200000 in
/-- x.token() where a name begins. -/
theorem token_name (b base : Nat) (s : ByteArray) (p q : Nat) (v : Value) (uns : Bool) (l : List Tok) (w : World)
    (hL : LexAt w b s p v false uns) (hown : w.ownsRow base 24 4 v l.length (toks l)) (hbase : base ≤ w.heap.size) (hB : base ≤ b) (hn : l.length ≤ 2147483648)
    (hs : s.size ≤ 140737488351232) (hpq : p < q) (hq : q ≤ s.size) (hb0 : isBeginB (bt s p) = true) (hin : ∀ i : Nat, p ≤ i → i < q → inNameB (bt s i) = true) (hout : inNameB (bt s q) = false) :
    Calls Tryd.prog 12 #[.pointer (some ⟨b, 0, none⟩)] w fun e w' => e = .returned (.tuple #[]) ∧
      ∃ v', LexAt w' b s q v' false uns ∧ w'.ownsRow base 24 4 v' (l.length + 1) (toks (l ++ [⟨15, s.extract p q, p, q⟩])) ∧ Below base w w' := by
  have c0 := hL.c0
  have c1 := hL.c1
  have hp1 : (p : Int) < (s.size : Int) := by omega
  have hbt := bt_nat s p
  have hb1 := of_decide_eq_true hb0
  have hst1 := extract_one s bom p (by omega) (by decide) (by rw [bt_bom]; omega)
  have hst2 := extract_one s dots p (by omega) (by decide) (by rw [bt_dots]; omega)
  have hsg := signOf_begin _ hb0
  have hIN := Aside0.mk hin
  have hOUT := Aside0.mk hout
  have HST1 := Aside0.mk hst1
  have HST2 := Aside0.mk hst2
  have HSG := Aside0.mk hsg
  have HB0 := Aside0.mk hb0
  clear hin hout hst1 hst2 hsg hb0
  have k1 : 65 ≤ bt s p := by omega
  have k2 : bt s p ≤ 122 := by omega
  have k3 : bt s p ≠ 123 := by omega
  generalize hc : bt s p = c at *
  have HC := Aside0.mk hc
  clear hc hb1
  have d1 : (c == 32) = false := beq_eq_false_iff_ne.2 (by omega)
  have d2 : (c == 9) = false := beq_eq_false_iff_ne.2 (by omega)
  have d3 : (c == 10) = false := beq_eq_false_iff_ne.2 (by omega)
  have d4 : (c == 13) = false := beq_eq_false_iff_ne.2 (by omega)
  have d5 : (c == 44) = false := beq_eq_false_iff_ne.2 (by omega)
  have d6 : (c == 35) = false := beq_eq_false_iff_ne.2 (by omega)
  go_enter Tryd.func12, Tryd.ntmps12
  go_wp2_with fail
  go_quiet (fail)
  go_wp2_with fail
  go_quiet ((go_at_call 16; exact quietA (starts_no s bom p _ hs (by decide) (by omega) HST1.out)))
  go_wp2_with fail
  go_quiet ((go_at_call 16; exact quietA (starts_no s dots p _ hs (by decide) (by omega) HST2.out)))
  go_wp2_with (first | (go_at_call 19; refine (sign_zero c _ HSG.out).mono ?_; rintro e w' ⟨rfl, rfl⟩) | (go_at_call 10; refine (isBegin_yes c _ HB0.out).mono ?_; rintro e w' ⟨rfl, rfl⟩))
  go_loop [3] (fun t => ∃ k : Nat, p ≤ k ∧ k ≤ q ∧ t = .int .i64 k) (fun t => q - (intOf t).toNat)
  case atStart => exact ⟨p, Nat.le_refl _, by omega, rfl⟩
  case round =>
    obtain ⟨k, hk1, hk2, rfl⟩ := hrel
    by_cases hlt : k < q
    · have hkk := hIN.out k hk1 hlt
      unfold inNameB at hkk
      by_cases hbg : isBeginB (bt s k) = true
      · have HBG := Aside0.mk hbg
        clear hkk hbg
        go_wp2_with (first | (go_at_call 20; refine (next_any b s k _ hs (by exact c0)).mono ?_; rintro e w' ⟨rfl, rfl⟩) | (go_at_call 10; refine (isBegin_yes _ _ HBG.out).mono ?_; rintro e w' ⟨rfl, rfl⟩))
        go_round
        case rel => exact ⟨k + 1, by omega, by omega, by go_num⟩
        case measure => simp [intOf]; omega
      · have hbg' : isBeginB (bt s k) = false := by simpa using hbg
        rw [hbg', Bool.false_or] at hkk
        have HBG := Aside0.mk hbg'
        have HDG := Aside0.mk hkk
        clear hkk hbg hbg'
        go_wp2_with (first | (go_at_call 20; refine (next_any b s k _ hs (by exact c0)).mono ?_; rintro e w' ⟨rfl, rfl⟩) | (go_at_call 10; refine (isBegin_no _ _ HBG.out).mono ?_; rintro e w' ⟨rfl, rfl⟩) | (go_at_call 21; refine (isDigit_yes _ _ HDG.out).mono ?_; rintro e w' ⟨rfl, rfl⟩))
        go_round
        case rel => exact ⟨k + 1, by omega, by omega, by go_num⟩
        case measure => simp [intOf]; omega
    · obtain rfl : k = q := by omega
      have hoo := hOUT.out
      unfold inNameB at hoo
      rw [Bool.or_eq_false_iff] at hoo
      have HBG := Aside0.mk hoo.1
      have HDG := Aside0.mk hoo.2
      clear hoo
      go_wp2_with (first | (go_at_call 20; refine (next_any b s k _ hs (by exact c0)).mono ?_; rintro e w' ⟨rfl, rfl⟩) | (go_at_call 10; refine (isBegin_no _ _ HBG.out).mono ?_; rintro e w' ⟨rfl, rfl⟩) | (go_at_call 21; refine (isDigit_no _ _ HDG.out).mono ?_; rintro e w' ⟨rfl, rfl⟩))
      have i0 : (0 : Int) ≤ (p : Int) := by omega
      have i1 : (p : Int) ≤ (k : Int) := by omega
      have i2 : (k : Int) ≤ (s.size : Int) := by omega
      go_region_with ((go_at_call 18; refine (add_any b base 15 k (s.extract p k) s p v false uns l _ (by exact hL) (by exact hown) (by exact hbase) hB hn).mono ?_; rintro e w' ⟨rfl, v', hL', hown', hbel'⟩))
      all_goals
        go_wp2
        go_end0
        exact ⟨rfl, v', hL', hown', ⟨hbel'.os, hbel'.tape, hbel'.output, hbel'.size, hbel'.block⟩⟩
end Go.Proofs.YtofafhboagfihaaDoor.Lex
