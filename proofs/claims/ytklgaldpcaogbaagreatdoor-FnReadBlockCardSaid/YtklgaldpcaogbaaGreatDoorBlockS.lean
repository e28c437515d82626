import Derived.Test.YtklgaldpcaogbaaGreatDoorBlockP
import Derived.Test.YtklgaldpcaogbaaGreatDoorPointP
import Derived.Test.YtklgaldpcaogbaaGreatDoorAdd
import Derived.Test.YtklgaldpcaogbaaGreatDoorSrc
import Derived.Test.YtklgaldpcaogbaaGreatDoorPsourcex1
namespace Go.Proofs.YtklgaldpcaogbaaGreatDoor.Block
set_option linter.unusedVariables false
set_option linter.unusedSimpArgs false
open Go.RowKit Go.Proofs.YtklgaldpcaogbaaGreatDoor.Mem Go.Proofs.YtklgaldpcaogbaaGreatDoor.Lex Go.Proofs.YtklgaldpcaogbaaGreatDoor.Rune Go.Proofs.YtklgaldpcaogbaaGreatDoor.NameP Go.Proofs.YtklgaldpcaogbaaGreatDoor.LinesP Go.Proofs.YtklgaldpcaogbaaGreatDoorW.PrintWords Go.Proofs.YtklgaldpcaogbaaGreatDoorW.PrintLast

def esc : ByteArray := ⟨#[92, 34, 34, 34]⟩
/-- A character that a block string may hold. -/
def srcOk (c : Int) : Prop := c = 9 ∨ c = 10 ∨ c = 13 ∨ 32 ≤ c
/-- One character of a block string, of so many bytes. -/
def Step (s : ByteArray) (a n : Nat) : Prop := a < s.size ∧ startsB s a quotes = false ∧ startsB s a esc = false ∧ ∃ c : Int, runeOf s a = (c, (n : Int)) ∧ 1 ≤ n ∧ n ≤ 4 ∧ a + n ≤ s.size ∧ srcOk c
inductive Path (s : ByteArray) (a : Nat) : Nat → Prop
  | refl : Path s a a
  | snoc {b n : Nat} : Path s a b → Step s b n → Path s a (b + n)
/-- The text's lines, by the print. -/
def IsLines (s : ByteArray) (l : List ByteArray) : Prop := LinesOf s l ∧ ∀ k, 2 * s.size + 2 < k → PplainBlock.spec_Lines.f k s = some l ∧ PBlockValue.spec_Lines.f k s = some l ∧ PFnReadBlock.lexer_zzLines.f k s = some l

/-- Where a block string ends badly. -/
def FailAt (s : ByteArray) : Prop := ∃ a, Path s 3 a ∧ (s.size ≤ a ∨ (a < s.size ∧ startsB s a quotes = false ∧ startsB s a esc = false ∧ ∃ c n : Int, runeOf s a = (c, n) ∧ 1 ≤ n ∧ ¬ srcOk c))
/-- Where it ends well, and its token. -/
def DoneAt (s : ByteArray) (t : Tok) : Prop := ∃ a l, Path s 3 a ∧ a + 3 ≤ s.size ∧ startsB s a quotes = true ∧ IsLines (s.extract 3 a) l ∧ plainL l = true ∧ t = ⟨19, valueL l, 0, ((a + 3 : Nat) : Int)⟩
def BlockEnd (w : World) (base b : Nat) (s : ByteArray) (w' : World) : Prop :=
  Below base w w' ∧ ((∃ uns, LexAt w' b s 0 (.slice none 0 0) true uns ∧ (uns = false → FailAt s)) ∨
    (∃ t v uns, LexAt w' b s t.stop v false uns ∧ w'.ownsRow base 24 4 v 1 (toks [t]) ∧ (uns = false → DoneAt s t)))

/-- BlockValue and plainBlock, for one text. -/
theorem value_calls (s : ByteArray) (hs : s.size ≤ 2000) : ∃ l, IsLines s l ∧ (∀ w, Calls Tryz.prog 16 #[.string s] w fun e w' => e = .returned (.bool (plainL l)) ∧ Below w.heap.size w w') ∧
    ∀ w, Calls Tryz.prog 18 #[.string s] w fun e w' => e = .returned (.string (valueL l)) ∧ Below w.heap.size w w' := by
  obtain ⟨l, hl, hk, hc⟩ := plain_calls s (by omega)
  exact ⟨l, ⟨hl, hk⟩, hc, fun w => PBlockValue.spec_BlockValue.calls _ s _ w (value_some (by omega) hl (fun k h => (hk k h).2.1))⟩

theorem fail_any (b : Nat) (s : ByteArray) (p : Int) (v : Value) (bad uns : Bool) (w : World) (hL : LexAt w b s p v bad uns) :
    Calls Tryz.prog 20 #[.pointer (some ⟨b, 0, none⟩)] w fun e w' => e = .returned (.tuple #[]) ∧ w' = w.setCell ⟨b, 3, none⟩ (.bool true) := by
  have c3 := hL.c3
  have hf := Blk.frozen hL 3
  go_enter Tryz.func20, Tryz.ntmps20
  go_wp2
  go_end0
  exact ⟨rfl, rfl⟩

def srcB (c : Int) : Bool := decide (c = 9 ∨ c = 10 ∨ c = 13 ∨ 32 ≤ c)
theorem srcB_ok {c : Int} : srcB c = true ↔ srcOk c := by unfold srcB srcOk; exact decide_eq_true_iff
theorem source_calls (c : Int) (w : World) : Calls Tryz.prog 19 #[.int .i64 c] w fun e w' => e = .returned (.tuple #[.bool (srcB c), .bool (decide (c ≤ 65535))]) ∧ Drawn0 w w' := by
  refine (Psource.spec_source.calls c (srcB c) (decide (c ≤ 65535)) w ?_).mono fun e w' h => h
  unfold Psource.spec_source.f srcB
  by_cases h1 : c = 9
  · rw [if_pos h1, decide_eq_true (p := c = 9 ∨ c = 10 ∨ c = 13 ∨ 32 ≤ c) (by omega)]
  · rw [if_neg h1]
    by_cases h2 : c = 10
    · rw [if_pos h2, decide_eq_true (p := c = 9 ∨ c = 10 ∨ c = 13 ∨ 32 ≤ c) (by omega)]
    · rw [if_neg h2]
      by_cases h3 : c = 13
      · rw [if_pos h3, decide_eq_true (p := c = 9 ∨ c = 10 ∨ c = 13 ∨ 32 ≤ c) (by omega)]
      · rw [if_neg h3]
        by_cases h4 : 32 ≤ c
        · rw [decide_eq_true (show c ≥ 32 from h4), decide_eq_true (p := c = 9 ∨ c = 10 ∨ c = 13 ∨ 32 ≤ c) (by omega)]
        · rw [decide_eq_false (show ¬ c ≥ 32 from h4), decide_eq_false (p := c = 9 ∨ c = 10 ∨ c = 13 ∨ 32 ≤ c) (by omega)]
theorem extract_snoc {s : ByteArray} {p m : Nat} (hp3 : 3 ≤ p) : s.extract 3 p ++ s.extract p ((p : Int) + (m : Int)).toNat = s.extract 3 (p + m) := by
  rw [show ((p : Int) + (m : Int)).toNat = p + m by omega]
  apply ByteArray.ext
  simp only [ByteArray.data_append, ByteArray.data_extract]
  rw [Array.extract_append_extract]
  congr 1 <;> omega
theorem starts_le {s t : ByteArray} {p : Nat} (h : startsB s p t = true) : p + t.size ≤ s.size := by
  unfold startsB at h
  rw [Bool.and_eq_true] at h
  exact of_decide_eq_true h.1

set_option maxRecDepth 100000 in
set_option maxHeartbeats 4000000 in
theorem block_any (b base : Nat) (s : ByteArray) (w : World) (hL : LexAt w b s 0 (.slice none 0 0) false false) (hbase : base ≤ w.heap.size) (hB : base ≤ b) (hs : s.size ≤ 2000) (h3 : 3 ≤ s.size) :
    Calls Tryz.prog 12 #[.pointer (some ⟨b, 0, none⟩)] w fun e w' => e = .returned (.tuple #[]) ∧ BlockEnd w base b s w' := by
  have c0 := hL.c0
  have c1 := hL.c1
  have lb : b < w.heap.size := Blk.lt hL
  go_enter Tryz.func12, Tryz.ntmps12
  go_wp2_with fail
  go_loopw [2, 3] (fun r a wr => ∃ (raw : ByteArray) (p : Nat) (uns : Bool), r = .string raw ∧ a = .int .i64 p ∧ 3 ≤ p ∧ p ≤ s.size ∧ raw.size ≤ p ∧ LexAt wr b s 0 (.slice none 0 0) false uns ∧ Aside0 (Below base w wr) ∧ Aside0 (uns = false → Path s 3 p ∧ raw = s.extract 3 p)) (fun _ a _ => s.size - (intOf a).toNat)
  case atStart => exact ⟨_, 3, false, rfl, rfl, by omega, h3, by show (0 : Nat) ≤ 3; omega, hL, ⟨Below.refl _ _⟩, ⟨fun _ => ⟨.refl, by apply ByteArray.ext; simp⟩⟩⟩
  case round =>
    obtain ⟨raw, p, uns, rfl, rfl, hp3, hps, hraw, hL, HB, HP⟩ := hrel
    clear c0 c1
    have c0 := hL.c0
    have c3 := hL.c3
    have c4 := hL.c4
    have hf4 := Blk.frozen hL 4
    by_cases hlt : p < s.size
    · have hlti : (p : Int) < (s.size : Int) := by omega
      have HS := Aside0.mk (fun W => starts_any s quotes p W (by omega) (by decide) hps)
      go_wp2_with fail
      refine (HS.out _).mono ?_
      rintro e w' ⟨rfl, rfl⟩
      by_cases hq : startsB s p quotes = true
      · rw [hq]
        obtain ⟨l, hIs, HPl, HVa⟩ := value_calls raw (by omega)
        have HPl := Aside0.mk HPl
        have HVa := Aside0.mk HVa
        have HIs := Aside0.mk hIs
        clear hIs
        cases uns with
        | true =>
          go_wp2_with fail
          refine (HVa.out _).mono ?_
          rintro e w2 ⟨rfl, hb2⟩
          have hL2 : LexAt w2 b s 0 (.slice none 0 0) false true := Blk.below (Blk.set_ hL 4 (.bool true)) hb2 (by simpa using Blk.lt hL)
          have HB2 := Aside0.mk (((HB.out).setCell hB (p := ⟨b, 4, none⟩) (.bool true)).trans (hb2.mono (by have := HB.out.size; simp; omega)))
          clear hb2 HB
          go_wp2_with fail
          refine (add_any b base 19 _ _ s 0 (.slice none 0 0) false true [] w2 hL2 (own_nil _ _ _ _) (by have := HB2.out.size; omega) hB (by simp)).mono ?_
          rintro e w3 ⟨rfl, v', h1, h2, h3⟩
          go_wp2_with fail
          have HE : BlockEnd w base b s w3 := ⟨HB2.out.trans h3, .inr ⟨_, v', true, h1, by simpa using h2, fun hu => by cases hu⟩⟩
          clear h1 h2 h3
          exact bodyPost_ret (v := .tuple #[]) (by simp [results, Tryz.results12, go_sem]) rfl ⟨rfl, HE⟩
        | false =>
          go_wp2_with fail
          refine (HPl.out _).mono ?_
          rintro e w1 ⟨rfl, hb1⟩
          have hL1 : LexAt w1 b s 0 (.slice none 0 0) false false := Blk.below hL hb1 (Blk.lt hL)
          have HB1 := Aside0.mk ((HB.out).trans (hb1.mono (by have := HB.out.size; omega)))
          have hg0 := hL1.c4
          have hg1 := Blk.frozen hL1 4
          clear hb1 HB
          cases hpl : plainL l with
          | true =>
            go_wp2_with fail
            refine (HVa.out _).mono ?_
            rintro e w2 ⟨rfl, hb2⟩
            have hL2 : LexAt w2 b s 0 (.slice none 0 0) false false := Blk.below (Blk.set_ hL1 4 (.bool false)) hb2 (by simpa using Blk.lt hL1)
            have HB2 := Aside0.mk (((HB1.out).setCell hB (p := ⟨b, 4, none⟩) (.bool false)).trans (hb2.mono (by have := HB1.out.size; simp; omega)))
            clear hb2 HB1
            go_wp2_with fail
            refine (add_any b base 19 _ _ s 0 (.slice none 0 0) false false [] w2 hL2 (own_nil _ _ _ _) (by have := HB2.out.size; omega) hB (by simp)).mono ?_
            rintro e w3 ⟨rfl, v', h1, h2, h3⟩
            go_wp2_with fail
            have HE : BlockEnd w base b s w3 := ⟨HB2.out.trans h3, .inr ⟨_, v', false, h1, by simpa using h2, fun _ => ⟨p, l, (HP.out (by simp)).1, starts_le hq, hq, by rw [← (HP.out (by simp)).2]; exact HIs.out, hpl, by simp⟩⟩⟩
            clear h1 h2 h3
            exact bodyPost_ret (v := .tuple #[]) (by simp [results, Tryz.results12, go_sem]) rfl ⟨rfl, HE⟩
          | false =>
            go_wp2_with fail
            refine (HVa.out _).mono ?_
            rintro e w2 ⟨rfl, hb2⟩
            have hL2 : LexAt w2 b s 0 (.slice none 0 0) false true := Blk.below (Blk.set_ hL1 4 (.bool true)) hb2 (by simpa using Blk.lt hL1)
            have HB2 := Aside0.mk (((HB1.out).setCell hB (p := ⟨b, 4, none⟩) (.bool true)).trans (hb2.mono (by have := HB1.out.size; simp; omega)))
            clear hb2 HB1
            go_wp2_with fail
            refine (add_any b base 19 _ _ s 0 (.slice none 0 0) false true [] w2 hL2 (own_nil _ _ _ _) (by have := HB2.out.size; omega) hB (by simp)).mono ?_
            rintro e w3 ⟨rfl, v', h1, h2, h3⟩
            go_wp2_with fail
            have HE : BlockEnd w base b s w3 := ⟨HB2.out.trans h3, .inr ⟨_, v', true, h1, by simpa using h2, fun hu => by cases hu⟩⟩
            clear h1 h2 h3
            exact bodyPost_ret (v := .tuple #[]) (by simp [results, Tryz.results12, go_sem]) rfl ⟨rfl, HE⟩
      · have hq' : startsB s p quotes = false := by simpa using hq
        rw [hq']
        have HS2 := Aside0.mk (fun W => starts_any s esc p W (by omega) (by decide) hps)
        go_wp2_with fail
        refine (HS2.out _).mono ?_
        rintro e w' ⟨rfl, rfl⟩
        by_cases he : startsB s p esc = true
        · rw [he]
          have hle := starts_le he
          have hl4 : esc.size = 4 := rfl
          have hL1 : LexAt (wr.setCell ⟨b, 4, none⟩ (.bool true)) b s 0 (.slice none 0 0) false true := Blk.set_ hL 4 _
          have hB1 : Below base w (wr.setCell ⟨b, 4, none⟩ (.bool true)) := HB.out.setCell hB (p := ⟨b, 4, none⟩) (.bool true)
          go_wp2_with fail
          exact ⟨⟨_, p + 4, true, rfl, by go_num, by omega, by omega, by rw [ByteArray.size_append]; show raw.size + 3 ≤ _; omega, hL1, ⟨hB1⟩, ⟨fun hu => by cases hu⟩⟩, by simp [intOf]; omega⟩
        · have he' : startsB s p esc = false := by simpa using he
          rw [he']
          obtain ⟨c, n, hpt, hpn⟩ := point_same s hs p hlt
          have HPt := Aside0.mk hpt
          clear hpt
          go_wp2_with fail
          refine (PFnReadBlock.spec_Point.calls 12 s p c n _ HPt.out).mono ?_
          rintro e w1 ⟨rfl, ⟨nd, rfl⟩⟩
          go_wp2_with fail
          refine (source_calls c _).mono ?_
          rintro e w1 ⟨rfl, ⟨nd2, rfl⟩⟩
          rcases hpn with hn0 | ⟨hr, hn1, hn4, hnle⟩
          · subst hn0
            cases uns
            all_goals
              go_wp2_with fail
              have hL1 : LexAt ((wr.drewN (nd + nd2)).setCell ⟨b, 4, none⟩ (.bool true)) b s 0 (.slice none 0 0) false true := Blk.set_ (LexAt.drewN hL _) 4 _
              refine (fail_any b s 0 (.slice none 0 0) false true _ hL1).mono ?_
              rintro e w2 ⟨rfl, rfl⟩
              go_wp2_with fail
              have HE : BlockEnd w base b s _ := ⟨((pw_below_drewN HB.out (nd + nd2)).setCell hB (p := ⟨b, 4, none⟩) (.bool true)).setCell hB (p := ⟨b, 3, none⟩) (.bool true), .inl ⟨true, Blk.set_ hL1 3 _, fun hu => by cases hu⟩⟩
              exact bodyPost_ret (v := .tuple #[]) (by simp [results, Tryz.results12, go_sem]) rfl ⟨rfl, HE⟩
          · obtain ⟨m, rfl⟩ : ∃ m : Nat, n = m := ⟨n.toNat, by omega⟩
            have hm0 : ((m : Int) == 0) = false := beq_eq_false_iff_ne.2 (by omega)
            cases hsr : srcB c with
            | false =>
              have hno : ¬ srcOk c := fun h => by rw [← srcB_ok, hsr] at h; cases h
              cases uns with
              | false =>
                go_wp2_with fail
                have hL1 : LexAt ((wr.drewN (nd + nd2)).setCell ⟨b, 4, none⟩ (.bool false)) b s 0 (.slice none 0 0) false false := Blk.set_ (LexAt.drewN hL _) 4 _
                refine (fail_any b s 0 (.slice none 0 0) false false _ hL1).mono ?_
                rintro e w2 ⟨rfl, rfl⟩
                go_wp2_with fail
                have HE : BlockEnd w base b s _ := ⟨((pw_below_drewN HB.out (nd + nd2)).setCell hB (p := ⟨b, 4, none⟩) (.bool false)).setCell hB (p := ⟨b, 3, none⟩) (.bool true), .inl ⟨false, Blk.set_ hL1 3 _, fun _ => ⟨p, (HP.out (by simp)).1, .inr ⟨hlt, hq', he', c, m, hr, hn1, hno⟩⟩⟩⟩
                exact bodyPost_ret (v := .tuple #[]) (by simp [results, Tryz.results12, go_sem]) rfl ⟨rfl, HE⟩
              | true =>
                go_wp2_with fail
                have hL1 : LexAt ((wr.drewN (nd + nd2)).setCell ⟨b, 4, none⟩ (.bool true)) b s 0 (.slice none 0 0) false true := Blk.set_ (LexAt.drewN hL _) 4 _
                refine (fail_any b s 0 (.slice none 0 0) false true _ hL1).mono ?_
                rintro e w2 ⟨rfl, rfl⟩
                go_wp2_with fail
                have HE : BlockEnd w base b s _ := ⟨((pw_below_drewN HB.out (nd + nd2)).setCell hB (p := ⟨b, 4, none⟩) (.bool true)).setCell hB (p := ⟨b, 3, none⟩) (.bool true), .inl ⟨true, Blk.set_ hL1 3 _, fun hu => by cases hu⟩⟩
                exact bodyPost_ret (v := .tuple #[]) (by simp [results, Tryz.results12, go_sem]) rfl ⟨rfl, HE⟩
            | true =>
              have hok : srcOk c := srcB_ok.1 hsr
              have hst : Step s p m := ⟨hlt, hq', he', c, hr, by omega, by omega, by omega, hok⟩
              cases uns with
              | false =>
                go_wp2_with fail
                have hL1 : LexAt ((wr.drewN (nd + nd2)).setCell ⟨b, 4, none⟩ (.bool (!decide (c ≤ 65535)))) b s 0 (.slice none 0 0) false (!decide (c ≤ 65535)) := Blk.set_ (LexAt.drewN hL _) 4 _
                have hB1 : Below base w ((wr.drewN (nd + nd2)).setCell ⟨b, 4, none⟩ (.bool (!decide (c ≤ 65535)))) := (pw_below_drewN HB.out (nd + nd2)).setCell hB (p := ⟨b, 4, none⟩) (.bool (!decide (c ≤ 65535)))
                exact ⟨⟨_, p + m, (!decide (c ≤ 65535)), rfl, by go_num, by omega, by omega, by rw [ByteArray.size_append, ByteArray.size_extract]; omega, hL1, ⟨hB1⟩, ⟨fun _ => ⟨(HP.out (by simp)).1.snoc hst, by rw [(HP.out (by simp)).2]; exact extract_snoc hp3⟩⟩⟩, by simp [intOf]; omega⟩
              | true =>
                go_wp2_with fail
                have hL1 : LexAt ((wr.drewN (nd + nd2)).setCell ⟨b, 4, none⟩ (.bool true)) b s 0 (.slice none 0 0) false true := Blk.set_ (LexAt.drewN hL _) 4 _
                have hB1 : Below base w ((wr.drewN (nd + nd2)).setCell ⟨b, 4, none⟩ (.bool true)) := (pw_below_drewN HB.out (nd + nd2)).setCell hB (p := ⟨b, 4, none⟩) (.bool true)
                exact ⟨⟨_, p + m, true, rfl, by go_num, by omega, by omega, by rw [ByteArray.size_append, ByteArray.size_extract]; omega, hL1, ⟨hB1⟩, ⟨fun hu => by cases hu⟩⟩, by simp [intOf]; omega⟩
    · have hlti : (s.size : Int) ≤ (p : Int) := by omega
      have HF := Aside0.mk (fail_any b s 0 (.slice none 0 0) false uns wr hL)
      go_wp2_with fail
      refine HF.out.mono ?_
      rintro e w' ⟨rfl, rfl⟩
      go_wp2_with fail
      go_end0
      exact ⟨rfl, (HB.out).setCell hB _, .inl ⟨uns, Blk.set_ hL 3 _, fun hu => ⟨p, (HP.out hu).1, .inl (by omega)⟩⟩⟩
end Go.Proofs.YtklgaldpcaogbaaGreatDoor.Block
