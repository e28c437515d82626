/- What this claim proves: laws.FnReadBlock answers true for every text: where a text of UTF-8 of at most 2000 bytes begins with three quotation marks and the reference is sure, impl.ReadBlock returns the reference's token (the lines between the quotation marks without their common white space and without blank lines at both ends), or none where the reference has none. No condition; the tables of unicode/utf8 and bytes.ErrTooLarge are tied to the program's text by the card. -/
import Derived.Test.YtklgaldpcaogbaaGreatDoorBlockI
import Derived.Test.YtklgaldpcaogbaaGreatDoorBlockE
import Derived.Test.YtklgaldpcaogbaaGreatDoorErrN
import Derived.Lib.BufferOld
import Derived.Lib.SlBytesRow
import Derived.Lib.ConvBytes
import Derived.Test.YtklgaldpcaogbaaGreatDoorPointP
import Derived.Test.YtklgaldpcaogbaaGreatDoorTie
import Derived.Test.YtklgaldpcaogbaaGreatDoorCards
import Derived.ProofKit
import Derived.OpenShut
import Derived.ShutString
import Derived.LaidMore
import Derived.Lay
import Derived.SevenTiedAt
import Derived.Stop.Joined
import Derived.Lib.LaidU8T
import Derived.SizedLaws
import Derived.Below
namespace Go.Proofs.YtklgaldpcaogbaaGreatDoor.Block
set_option linter.unusedVariables false
set_option linter.unusedSimpArgs false
open Go.RowKit Go.Proofs.YtklgaldpcaogbaaGreatDoor.Mem Go.Proofs.YtklgaldpcaogbaaGreatDoor.Lex Go.Proofs.YtklgaldpcaogbaaGreatDoor.Rune Go.Proofs.YtklgaldpcaogbaaGreatDoor.Err Go.Proofs.YtklgaldpcaogbaaGreatDoor.LinesP Go.Proofs.YtklgaldpcaogbaaGreatDoorW.PrintWords Go.Proofs.YtklgaldpcaogbaaGreatDoorW.PrintLast

theorem path_head {s : ByteArray} {a b : Nat} (h : Path s a b) : a = b ∨ ∃ n, Step s a n ∧ Path s (a + n) b := by
  induction h with
  | refl => exact .inl rfl
  | snoc h1 h2 ih =>
    rcases ih with rfl | ⟨m, h3, h4⟩
    · exact .inr ⟨_, h2, .refl⟩
    · exact .inr ⟨m, h3, .snoc h4 h2⟩
theorem path_le {s : ByteArray} {a b : Nat} (h : Path s a b) : a ≤ b := by
  induction h with
  | refl => exact Nat.le_refl _
  | snoc h1 h2 ih => omega
theorem path_size {s : ByteArray} {a b : Nat} (h : Path s a b) (ha : a ≤ s.size) : b ≤ s.size := by
  cases h with
  | refl => exact ha
  | snoc h1 h2 =>
    obtain ⟨_, _, _, c, _, _, _, h, _⟩ := h2
    exact h
theorem rune_is {s : ByteArray} {p : Nat} {c : Int} (h : (runeOf s p).1 = c) (h0 : 0 ≤ c) (h1 : c < 128) : p < s.size ∧ bt s p = c := by
  by_cases hp : p < s.size
  · by_cases hb : bt s p < 128
    · rw [runeOf_ascii s p hp hb] at h; exact ⟨hp, h⟩
    · have := runeOf_big s p hp hb; omega
  · exfalso
    unfold runeOf at h
    rw [if_pos (by omega)] at h
    simp only at h
    omega
theorem starts_of {s t : ByteArray} {p : Nat} (h : p + t.size ≤ s.size) (hb : ∀ j : Nat, j < t.size → bt s (p + j : Nat) = bt t j) : startsB s p t = true := by
  have hsz : (s.extract p (p + t.size)).size = t.size := by rw [ByteArray.size_extract]; omega
  have e : s.extract p (p + t.size) = t := by
    apply ByteArray.ext_getElem hsz
    intro i h1 h2
    have h3 := hb i h2
    rw [← bt_extract s p (p + t.size) i h1, bt_natQ _ _ h1, bt_natQ _ _ h2] at h3
    exact UInt8.toNat_inj.1 (by omega)
  unfold startsB
  rw [decide_eq_true h, e]
  simp
theorem starts_bt {s t : ByteArray} {p : Nat} (h : startsB s p t = true) (j : Nat) (hj : j < t.size) : bt s (p + j : Nat) = bt t j := by
  unfold startsB at h
  rw [Bool.and_eq_true] at h
  have e : s.extract p (p + t.size) = t := toList_inj (by simpa using h.2)
  rw [← bt_extract s p (p + t.size) j (by rw [e]; exact hj), e]
theorem no_quotes {s : ByteArray} {p : Nat} (h : startsB s p quotes = false) (h0 : (runeOf s p).1 = 34) (h1 : (runeOf s (p + 1)).1 = 34) (h2 : (runeOf s (p + 2)).1 = 34) : False := by
  have a0 := rune_is h0 (by omega) (by omega)
  have a1 := rune_is h1 (by omega) (by omega)
  have a2 := rune_is h2 (by omega) (by omega)
  have := starts_of (s := s) (t := quotes) (p := p) (by show p + 3 ≤ _; omega) (fun j hj => by
    have hj : j < 3 := hj
    have hc : j = 0 ∨ j = 1 ∨ j = 2 := by omega
    rcases hc with rfl | rfl | rfl
    · rw [Nat.add_zero, a0.2]; decide +kernel
    · rw [a1.2]; decide +kernel
    · rw [a2.2]; decide +kernel)
  rw [h] at this
  cases this
theorem no_esc {s : ByteArray} {p : Nat} (h : startsB s p esc = false) (h0 : (runeOf s p).1 = 92) (h1 : (runeOf s (p + 1)).1 = 34) (h2 : (runeOf s (p + 2)).1 = 34) (h3 : (runeOf s (p + 3)).1 = 34) : False := by
  have a0 := rune_is h0 (by omega) (by omega)
  have a1 := rune_is h1 (by omega) (by omega)
  have a2 := rune_is h2 (by omega) (by omega)
  have a3 := rune_is h3 (by omega) (by omega)
  have := starts_of (s := s) (t := esc) (p := p) (by show p + 4 ≤ _; omega) (fun j hj => by
    have hj : j < 4 := hj
    have hc : j = 0 ∨ j = 1 ∨ j = 2 ∨ j = 3 := by omega
    rcases hc with rfl | rfl | rfl | rfl
    · rw [Nat.add_zero, a0.2]; decide +kernel
    · rw [a1.2]; decide +kernel
    · rw [a2.2]; decide +kernel
    · rw [a3.2]; decide +kernel)
  rw [h] at this
  cases this
theorem yes_quotes {s : ByteArray} {p : Nat} (h : startsB s p quotes = true) : p + 3 ≤ s.size ∧ runeOf s p = (34, 1) ∧ runeOf s (p + 1) = (34, 1) ∧ runeOf s (p + 2) = (34, 1) := by
  have h3 : p + 3 ≤ s.size := starts_le h
  have b0 : bt s p = 34 := (starts_bt h 0 (by decide)).trans (by decide +kernel)
  have b1 : bt s (p + 1 : Nat) = 34 := (starts_bt h 1 (by decide)).trans (by decide +kernel)
  have b2 : bt s (p + 2 : Nat) = 34 := (starts_bt h 2 (by decide)).trans (by decide +kernel)
  refine ⟨h3, ?_, ?_, ?_⟩
  · rw [runeOf_ascii s p (by omega) (by omega), b0]
  · rw [runeOf_ascii s (p + 1) (by omega) (by omega), b1]
  · rw [runeOf_ascii s (p + 2) (by omega) (by omega), b2]

def BadEnd (s : ByteArray) (a : Nat) : Prop := s.size ≤ a ∨ (a < s.size ∧ startsB s a quotes = false ∧ startsB s a esc = false ∧ ∃ c n : Int, runeOf s a = (c, n) ∧ 1 ≤ n ∧ ¬ srcOk c)
def GoodEnd (s : ByteArray) (a : Nat) (l : List ByteArray) : Prop := startsB s a quotes = true ∧ IsLines (s.extract 3 a) l ∧ plainL l = true
def ReadEnd (s : ByteArray) (a : Nat) (e : Ending) : Prop :=
  (BadEnd s a ∧ ∃ g : Nat, e = .returned (.tuple #[.agg #[.int .i64 0, .int .i64 0, .int .i64 0, .string ⟨#[]⟩], .iface 71 (.pointer (some ⟨g, 0, none⟩))])) ∨
  (∃ l, GoodEnd s a l ∧ e = .returned (.tuple #[.agg #[.int .i64 19, .int .i64 0, .int .i64 ((a : Int) + 3), .string (valueL l)], .nilIface]))

theorem ext_len {s : ByteArray} {p : Nat} (h : p ≤ s.size) : (s.extract 3 p).data.toList.length = p - 3 := by
  rw [← Lib.size_eq, ByteArray.size_extract]; omega
theorem body_cells {w : World} {bb : Nat} {s : ByteArray} {p : Nat} (h : BodyAt w bb s) (hp : p ≤ s.size) : ∀ j v, (Lib.byteCells (s.extract 3 p).data.toList)[j]? = some v → w.cell? ((⟨bb, 3, none⟩ : Addr).add j) = some v := by
  intro j v hj
  have hjl : j < (s.extract 3 p).data.toList.length := by
    have h5 := (List.getElem?_eq_some_iff.1 hj).1
    rwa [Lib.byteCells_length] at h5
  have hjs : j < (s.extract 3 p).size := by rw [Lib.size_eq]; exact hjl
  have hj3 : 3 + j < s.size := by rw [ByteArray.size_extract] at hjs; omega
  have e5 : (Lib.byteCells (s.extract 3 p).data.toList)[j]? = some (Value.int .u8 (bt (s.extract 3 p) j)) := by
    rw [bt_natQ _ _ hjs]
    simp only [Lib.byteCells, List.getElem?_map, List.getElem?_eq_getElem hjl, Option.map_some]
    rfl
  rw [e5] at hj
  cases hj
  rw [Lib.addr_add, bt_extract _ _ _ _ hjs]
  exact h (3 + j) hj3
theorem rune_eq {w : World} {bb : Nat} {s : ByteArray} (h : Src w bb s) (cap q : Nat) (qi c n : Int) (hcap : s.size ≤ cap) (hq : q ≤ 1000000) (hqi : qi = q) (hr : runeOf s q = (c, n)) :
    Calls Tryz.prog 25 #[.slice (some ⟨bb, 0, none⟩) s.size cap, .int .i64 qi] w fun e w' => e = .returned (.tuple #[.int .i32 c, .int .i64 n]) ∧ Below w.heap.size w w' := by
  have h1 := rune_src h q cap hcap (by omega)
  rw [hr] at h1
  rw [hqi]
  exact h1

set_option maxRecDepth 100000 in
set_option maxHeartbeats 4000000 in
theorem readBlock_any (sb bb cap a : Nat) (s : ByteArray) (w : World) (hS : Src w bb s) (h0 : w.cell? ⟨sb, 0, none⟩ = some (.slice (some ⟨bb, 0, none⟩) s.size cap)) (hs : s.size ≤ 2000) (hcap : s.size ≤ cap) (h3 : 3 ≤ s.size)
    (hP : Path s 3 a) (hE : BadEnd s a ∨ ∃ l, GoodEnd s a l) :
    Calls Tryz.prog 21 #[.pointer (some ⟨sb, 0, none⟩), .int .i64 0] w fun e w' => ReadEnd s a e ∧ Below w.heap.size w w' := by
  have hsb : sb < w.heap.size := World.block_lt_of_cell? w _ h0
  have hbl : bb < w.heap.size := World.block_lt_of_cell? w _ (hS.body 0 (by omega))
  have HS := Aside0.mk hS
  have HE := Aside0.mk hE
  have HP := Aside0.mk hP
  clear hS hE hP
  go_enter Tryz.func21, Tryz.ntmps21
  go_wp2_with fail
  have HK := Aside0.mk (fun W' (hb : Below (w.heap.size + 1) ((w.alloc (.cells #[.int .i64 0, .int .i64 0, .int .i64 0, .string ⟨#[]⟩] 36)).alloc (.cells #[.slice none 0 0, .int .i64 0, .int .i8 0] 64)) W') => And.intro (four_kept hb) (fun j => frozen_kept hb j))
  have HI := Aside0.mk (Lib.fresh_isBuffer 64 5 (w.alloc (.cells #[.int .i64 0, .int .i64 0, .int .i64 0, .string ⟨#[]⟩] 36)))
  have HB0 := Aside0.mk (show Below w.heap.size w ((w.alloc (.cells #[.int .i64 0, .int .i64 0, .int .i64 0, .string ⟨#[]⟩] 36)).alloc (.cells #[.slice none 0 0, .int .i64 0, .int .i8 0] 64)) from below_alloc (below_alloc (Below.refl _ _) _) _)
  have HS2 := Aside0.mk ((HS.out.alloc (.cells #[.int .i64 0, .int .i64 0, .int .i64 0, .string ⟨#[]⟩] 36)).alloc (.cells #[.slice none 0 0, .int .i64 0, .int .i8 0] 64))
  have hsz0 : ((w.alloc (.cells #[.int .i64 0, .int .i64 0, .int .i64 0, .string ⟨#[]⟩] 36)).alloc (.cells #[.slice none 0 0, .int .i64 0, .int .i8 0] 64)).heap.size = w.heap.size + 2 := by simp
  rw [World.size_alloc] at HI
  generalize (w.alloc (.cells #[.int .i64 0, .int .i64 0, .int .i64 0, .string ⟨#[]⟩] 36)).alloc (.cells #[.slice none 0 0, .int .i64 0, .int .i8 0] 64) = W0 at *
  have HC0 := Aside0.mk ((HB0.out.cell (p := ⟨sb, 0, none⟩) hsb).trans h0)
  clear HS h0
  go_loopw [7, 8, 9] (fun v7 v8 v9 wr => ∃ (p rp : Nat), v7 = .int .i64 p ∧ v8 = .int .i64 rp ∧ v9 = .int .i64 3 ∧ 3 ≤ p ∧ p ≤ s.size ∧ rp ≤ p ∧ Aside0 (Path s p a) ∧ Aside0 (Below W0.heap.size W0 wr)) (fun v7 _ _ _ => s.size - (intOf v7).toNat)
  case atStart => exact ⟨3, 3, rfl, rfl, rfl, by omega, h3, by omega, HP, ⟨Below.refl _ _⟩⟩
  case round =>
    obtain ⟨p, rp, rfl, rfl, rfl, hp3, hps, hrp, HPa, HB⟩ := hrel
    have hwr := HB.out.size
    have HSr : Src wr bb s := HS2.out.below HB.out
    rcases path_head HPa.out with rfl | ⟨n, ⟨hlt, hnq, hne, c, hr, hn1, hn4, hle, hok⟩, hnext⟩
    · have h0r : wr.cell? ⟨sb, 0, none⟩ = some (.slice (some ⟨bb, 0, none⟩) s.size cap) := (HB.out.cell (p := ⟨sb, 0, none⟩) (show sb < W0.heap.size by omega)).trans HC0.out
      rcases HE.out with hbad | ⟨l, hgood⟩
      · rcases id hbad with hend | ⟨hlt, hnq, hne, c, n, hr, hn1, hno⟩
        · have hendi : (s.size : Int) ≤ (p : Int) := by omega
          have HX := Aside0.mk (fun msg => syntaxError_any sb bb cap rp s msg wr HSr.body h0r (by omega) hcap)
          have HBad := Aside0.mk (show BadEnd s p from hbad)
          go_wp2_with fail
          refine (HX.out _).mono ?_
          rintro e w2 ⟨g, rfl, hb2⟩
          have hbw : Below (w.heap.size + 1) W0 w2 := (HB.out.mono (by omega)).trans (hb2.mono (by omega))
          obtain ⟨⟨r0, r1, r2, r3⟩, hz⟩ := HK.out w2 hbw
          have hz0 := hz 0
          have hz1 := hz 1
          have hz2 := hz 2
          have hz3 := hz 3
          have HBF := Aside0.mk (HB0.out.trans (hbw.mono (by omega)))
          clear hbw hb2 hz HK
          go_wp2_with fail
          refine bodyPost_ret (v := .tuple #[.agg #[.int .i64 0, .int .i64 0, .int .i64 0, .string ⟨#[]⟩], .iface 71 (.pointer (some ⟨g, 0, none⟩))]) (by simp [results, Tryz.results21, go_sem, r0, r1, r2, r3]) rfl ⟨.inl ⟨HBad.out, g, rfl⟩, ?_⟩
          exact below_four HBF.out
        · have hlti : (p : Int) < (s.size : Int) := by omega
          have HBad := Aside0.mk (show BadEnd s p from hbad)
          have HR0 := Aside0.mk (rune_eq HSr cap p p c n hcap (by omega) rfl hr)
          have HX := Aside0.mk (fun W (hW : Below wr.heap.size wr W) msg => syntaxError_any sb bb cap rp s msg W (HSr.below hW).body ((hW.cell (p := ⟨sb, 0, none⟩) (show sb < wr.heap.size by omega)).trans h0r) (by omega) hcap)
          have q1 : c < 32 := by unfold srcOk at hno; omega
          have q2 : (c == 34) = false := beq_eq_false_iff_ne.2 (by omega)
          have q3 : (c == 9) = false := beq_eq_false_iff_ne.2 (by unfold srcOk at hno; omega)
          have q4 : (c == 10) = false := beq_eq_false_iff_ne.2 (by unfold srcOk at hno; omega)
          have q5 : (c == 13) = false := beq_eq_false_iff_ne.2 (by unfold srcOk at hno; omega)
          have q6 : (c != 9) = true := bne_iff_ne.2 (by unfold srcOk at hno; omega)
          have q7 : (c != 10) = true := bne_iff_ne.2 (by unfold srcOk at hno; omega)
          have q8 : (c != 13) = true := bne_iff_ne.2 (by unfold srcOk at hno; omega)
          clear hno hr hnq hne hbad
          go_wp2_with fail
          refine HR0.out.mono ?_
          rintro e wa ⟨rfl, hba⟩
          go_wp2_with fail
          refine (HX.out _ hba _).mono ?_
          rintro e w2 ⟨g, rfl, hb2⟩
          have hbw : Below (w.heap.size + 1) W0 w2 := ((HB.out.trans (hba.mono hwr)).mono (by omega)).trans (hb2.mono (by have := hba.size; omega))
          obtain ⟨⟨r0, r1, r2, r3⟩, hz⟩ := HK.out w2 hbw
          have hz0 := hz 0
          have hz1 := hz 1
          have hz2 := hz 2
          have hz3 := hz 3
          have HBF := Aside0.mk (HB0.out.trans (hbw.mono (by omega)))
          clear hbw hb2 hz HK
          go_wp2_with fail
          refine bodyPost_ret (v := .tuple #[.agg #[.int .i64 0, .int .i64 0, .int .i64 0, .string ⟨#[]⟩], .iface 71 (.pointer (some ⟨g, 0, none⟩))]) (by simp [results, Tryz.results21, go_sem, r0, r1, r2, r3]) rfl ⟨.inl ⟨HBad.out, g, rfl⟩, ?_⟩
          exact below_four HBF.out
      · obtain ⟨hq, hIs, hpl⟩ := hgood
        obtain ⟨hle, hr0, hr1, hr2⟩ := yes_quotes hq
        have hlti : (p : Int) < (s.size : Int) := by omega
        have HG := Aside0.mk (show GoodEnd s p l from ⟨hq, hIs, hpl⟩)
        have HR0 := Aside0.mk (fun W (hW : Below wr.heap.size wr W) => rune_eq (HSr.below hW) cap p p 34 1 hcap (by omega) rfl hr0)
        have HR1 := Aside0.mk (fun W (hW : Below wr.heap.size wr W) => rune_eq (HSr.below hW) cap (p + 1) ((p : Int) + 1) 34 1 hcap (by omega) (by omega) hr1)
        have HR2 := Aside0.mk (fun W (hW : Below wr.heap.size wr W) => rune_eq (HSr.below hW) cap (p + 2) ((p : Int) + 2) 34 1 hcap (by omega) (by omega) hr2)
        go_wp2_with fail
        refine (HR0.out _ (Below.refl _ _)).mono ?_
        rintro e wa ⟨rfl, hba⟩
        go_wp2_with fail
        refine (HR1.out _ hba).mono ?_
        rintro e wb ⟨rfl, hbb⟩
        have hab := hba.trans (hbb.mono hba.size)
        go_wp2_with fail
        refine (HR2.out _ hab).mono ?_
        rintro e wc ⟨rfl, hbc⟩
        have hac := hab.trans (hbc.mono hab.size)
        have g1 : (3 : Int) ≤ (p : Int) := by omega
        have g2 : (p : Int) ≤ (cap : Int) := by omega
        have g3 : ¬ cap = 3 := by omega
        have hbbne : bb < w.heap.size := hbl
        go_wp2_with fail
        have hI2 : Lib.IsBuffer 64 5 (w.heap.size + 1) (w.heap.size + 1) [] wc := HI.out.old (HB.out.trans (hac.mono hwr))
        refine (Tryz.Buffer_Write (w.heap.size + 1) (w.heap.size + 1) [] (Lib.byteCells (s.extract 3 p).data.toList) ⟨bb, 3, none⟩ (p - 3) (cap - 3) wc hI2 (by have := hac.size; omega) (by simp) (by rw [Lib.byteCells_length]; exact ext_len (by omega)) (by show bb ≠ _; omega) (body_cells (HSr.below hac).body (by omega)) (Lib.byteCells_one _) (by simp; omega)).mono ?_
        rintro e wd ⟨rfl, hI3, hbd, -⟩
        rw [List.nil_append] at hI3
        go_wp2_with fail
        refine (Tryz.Buffer_String (w.heap.size + 1) (w.heap.size + 1) _ wd hI3).mono ?_
        rintro e we ⟨rfl, nd, rfl⟩
        rw [show (⟨(s.extract 3 p).data.toList.toArray⟩ : ByteArray) = s.extract 3 p from ByteArray.ext Array.toArray_toList]
        go_wp2_with fail
        refine (blockStr_any (s.extract 3 p) l (2 * (s.extract 3 p).size + 3) _ (by rw [ByteArray.size_extract]; omega) hIs.1 (hIs.2 _ (by omega)).2.2).mono ?_
        rintro e wf ⟨rfl, hbf⟩
        rw [value_eq hIs.1.1 hpl]
        have hwd := hbd.size
        go_wp2_with fail
        refine (makeToken_any _ _ _ _ _).mono ?_
        rintro e wg ⟨rfl, hbg⟩
        have b1 : Below (w.heap.size + 1) W0 wc := (HB.out.trans (hac.mono hwr)).mono (by omega)
        have b2 := b1.trans hbd
        have b4 := b2.trans (pw_below_drewN (Below.refl (w.heap.size + 1) wd) nd)
        have s4 := b4.size
        have b5 := b4.trans (hbf.mono (by omega))
        have s5 := b5.size
        have hbw := b5.trans (hbg.mono (by omega))
        obtain ⟨⟨r0, r1, r2, r3⟩, hz⟩ := HK.out wg hbw
        have hz0 := hz 0
        have hz1 := hz 1
        have hz2 := hz 2
        have hz3 := hz 3
        have HBF := Aside0.mk (HB0.out.trans (hbw.mono (by omega)))
        clear hbw hz HK
        go_wp2_with fail
        refine bodyPost_ret (v := .tuple #[.agg #[.int .i64 19, .int .i64 0, .int .i64 ((p : Int) + 3), .string (valueL l)], .nilIface]) (by simp [results, Tryz.results21, go_sem, r0, r1, r2, r3]) rfl ⟨.inr ⟨l, HG.out, rfl⟩, ?_⟩
        exact below_four HBF.out
    · have hlti : (p : Int) < (s.size : Int) := by omega
      have HN := Aside0.mk hnext
      clear hnext HPa
      have HR0 := Aside0.mk (fun W (hW : Below wr.heap.size wr W) => rune_eq (HSr.below hW) cap p p c n hcap (by omega) rfl hr)
      have HR1 := Aside0.mk (fun W (hW : Below wr.heap.size wr W) => rune_eq (HSr.below hW) cap (p + 1) ((p : Int) + 1) (runeOf s (p + 1)).1 (runeOf s (p + 1)).2 hcap (by omega) (by omega) rfl)
      have HR2 := Aside0.mk (fun W (hW : Below wr.heap.size wr W) => rune_eq (HSr.below hW) cap (p + 2) ((p : Int) + 2) (runeOf s (p + 2)).1 (runeOf s (p + 2)).2 hcap (by omega) (by omega) rfl)
      have HR3 := Aside0.mk (fun W (hW : Below wr.heap.size wr W) => rune_eq (HSr.below hW) cap (p + 3) ((p : Int) + 3) (runeOf s (p + 3)).1 (runeOf s (p + 3)).2 hcap (by omega) (by omega) rfl)
      have hnoq : c = 34 → (runeOf s (p + 1)).1 = 34 → (runeOf s (p + 2)).1 = 34 → False := fun h => no_quotes hnq (by rw [hr]; exact h)
      have hnoe : c = 92 → (runeOf s (p + 1)).1 = 34 → (runeOf s (p + 2)).1 = 34 → (runeOf s (p + 3)).1 = 34 → False := fun h => no_esc hne (by rw [hr]; exact h)
      clear hr hnq hne
      generalize (runeOf s (p + 1)).1 = c1 at *
      generalize (runeOf s (p + 2)).1 = c2 at *
      generalize (runeOf s (p + 3)).1 = c3 at *
      generalize (runeOf s (p + 1)).2 = n1 at *
      generalize (runeOf s (p + 2)).2 = n2 at *
      generalize (runeOf s (p + 3)).2 = n3 at *
      have hcs : c = 9 ∨ c = 10 ∨ c = 13 ∨ c = 34 ∨ c = 92 ∨ (32 ≤ c ∧ c ≠ 34 ∧ c ≠ 92) := by unfold srcOk at hok; omega
      clear hok
      rcases hcs with rfl | rfl | rfl | rfl | rfl | ⟨k1, k2, k3⟩
      · skip
        go_wp2_with fail
        refine (HR0.out _ (Below.refl _ _)).mono ?_
        rintro e wa ⟨rfl, hba⟩
        go_wp2_with fail
        exact ⟨⟨p + n, rp + 1, by go_num, by go_num, rfl, by omega, hle, by omega, HN, ⟨HB.out.trans ((hba).mono hwr)⟩⟩, by simp [intOf]; omega⟩
      · skip
        go_wp2_with fail
        refine (HR0.out _ (Below.refl _ _)).mono ?_
        rintro e wa ⟨rfl, hba⟩
        go_wp2_with fail
        exact ⟨⟨p + n, rp + 1, by go_num, by go_num, rfl, by omega, hle, by omega, HN, ⟨HB.out.trans ((hba).mono hwr)⟩⟩, by simp [intOf]; omega⟩
      · skip
        go_wp2_with fail
        refine (HR0.out _ (Below.refl _ _)).mono ?_
        rintro e wa ⟨rfl, hba⟩
        go_wp2_with fail
        exact ⟨⟨p + n, rp + 1, by go_num, by go_num, rfl, by omega, hle, by omega, HN, ⟨HB.out.trans ((hba).mono hwr)⟩⟩, by simp [intOf]; omega⟩
      · have hno := hnoq rfl
        clear hnoq hnoe
        go_wp2_with fail
        refine (HR0.out _ (Below.refl _ _)).mono ?_
        rintro e wa ⟨rfl, hba⟩
        go_wp2_with fail
        refine (HR1.out _ hba).mono ?_
        rintro e wb ⟨rfl, hbb⟩
        have hab := hba.trans (hbb.mono hba.size)
        go_wp2_with fail
        refine (HR2.out _ hab).mono ?_
        rintro e wc ⟨rfl, hbc⟩
        have hac := hab.trans (hbc.mono hab.size)
        by_cases e1 : c1 = 34
        · subst e1
          have f2 : (c2 == 34) = false := beq_eq_false_iff_ne.2 (fun h => hno rfl h)
          go_wp2_with fail
          exact ⟨⟨p + n, rp + 1, by go_num, by go_num, rfl, by omega, hle, by omega, HN, ⟨HB.out.trans ((hac).mono hwr)⟩⟩, by simp [intOf]; omega⟩
        · have f1 : (c1 == 34) = false := beq_eq_false_iff_ne.2 e1
          go_wp2_with fail
          exact ⟨⟨p + n, rp + 1, by go_num, by go_num, rfl, by omega, hle, by omega, HN, ⟨HB.out.trans ((hac).mono hwr)⟩⟩, by simp [intOf]; omega⟩
      · have hno := hnoe rfl
        clear hnoq hnoe
        go_wp2_with fail
        refine (HR0.out _ (Below.refl _ _)).mono ?_
        rintro e wa ⟨rfl, hba⟩
        go_wp2_with fail
        refine (HR1.out _ hba).mono ?_
        rintro e wb ⟨rfl, hbb⟩
        have hab := hba.trans (hbb.mono hba.size)
        go_wp2_with fail
        refine (HR2.out _ hab).mono ?_
        rintro e wc ⟨rfl, hbc⟩
        have hac := hab.trans (hbc.mono hab.size)
        go_wp2_with fail
        refine (HR3.out _ hac).mono ?_
        rintro e wd ⟨rfl, hbd⟩
        have had := hac.trans (hbd.mono hac.size)
        by_cases e1 : c1 = 34
        · subst e1
          by_cases e2 : c2 = 34
          · subst e2
            have f3 : (c3 == 34) = false := beq_eq_false_iff_ne.2 (fun h => hno rfl rfl h)
            go_wp2_with fail
            exact ⟨⟨p + n, rp + 1, by go_num, by go_num, rfl, by omega, hle, by omega, HN, ⟨HB.out.trans ((had).mono hwr)⟩⟩, by simp [intOf]; omega⟩
          · have f2 : (c2 == 34) = false := beq_eq_false_iff_ne.2 e2
            go_wp2_with fail
            exact ⟨⟨p + n, rp + 1, by go_num, by go_num, rfl, by omega, hle, by omega, HN, ⟨HB.out.trans ((had).mono hwr)⟩⟩, by simp [intOf]; omega⟩
        · have f1 : (c1 == 34) = false := beq_eq_false_iff_ne.2 e1
          go_wp2_with fail
          exact ⟨⟨p + n, rp + 1, by go_num, by go_num, rfl, by omega, hle, by omega, HN, ⟨HB.out.trans ((had).mono hwr)⟩⟩, by simp [intOf]; omega⟩
      · have f1 : (c == 34) = false := beq_eq_false_iff_ne.2 k2
        have f2 : (c == 92) = false := beq_eq_false_iff_ne.2 k3
        go_wp2_with fail
        refine (HR0.out _ (Below.refl _ _)).mono ?_
        rintro e wa ⟨rfl, hba⟩
        go_wp2_with fail
        exact ⟨⟨p + n, rp + 1, by go_num, by go_num, rfl, by omega, hle, by omega, HN, ⟨HB.out.trans ((hba).mono hwr)⟩⟩, by simp [intOf]; omega⟩
end Go.Proofs.YtklgaldpcaogbaaGreatDoor.Block
namespace Go.Proofs.YtklgaldpcaogbaaGreatDoor.Block
set_option linter.unusedVariables false
set_option linter.unusedSimpArgs false
open Go.RowKit Go.Proofs.YtklgaldpcaogbaaGreatDoor.Mem Go.Proofs.YtklgaldpcaogbaaGreatDoor.Lex Go.Proofs.YtklgaldpcaogbaaGreatDoor.Rune Go.Proofs.YtklgaldpcaogbaaGreatDoor.Err Go.Proofs.YtklgaldpcaogbaaGreatDoor.LinesP Go.Proofs.YtklgaldpcaogbaaGreatDoorW.PrintWords Go.Proofs.YtklgaldpcaogbaaGreatDoorW.PrintLast

set_option maxRecDepth 100000 in
set_option maxHeartbeats 2000000 in
theorem lexReadBlock (a : Nat) (s : ByteArray) (w : World) (hT : Lib.Utf8Tabs 1 2 w) (hs : s.size ≤ 2000) (h3 : 3 ≤ s.size) (hP : Path s 3 a) (hE : BadEnd s a ∨ ∃ l, GoodEnd s a l) :
    Calls Tryz.prog 13 #[.string s] w fun e w' => ReadEnd s a e ∧ Below w.heap.size w w' := by
  have kb := fun W => print_bytes (P := Tryz.prog) 9 53 5 Tryz.underlying9 Tryz.underlying53 Tryz.underlying5 s W
  go_enter Tryz.func13, Tryz.ntmps13
  go_wp2_with fail
  obtain ⟨hS, hB, hsz⟩ := lex_facts w s (.cells #[.int .i64 0, .int .i64 0, .int .i64 0, .string ⟨#[]⟩] 36) hT
  have hcap := grownCap_ge (w.alloc (.cells #[.int .i64 0, .int .i64 0, .int .i64 0, .string ⟨#[]⟩] 36)) s.size 0 5
  generalize grownCap (w.alloc (.cells #[.int .i64 0, .int .i64 0, .int .i64 0, .string ⟨#[]⟩] 36)) s.size 0 5 = cap at *
  generalize Lib.bytesWorld (w.alloc (.cells #[.int .i64 0, .int .i64 0, .int .i64 0, .string ⟨#[]⟩] 36)) 5 s = W2 at *
  have hS3 : Src (W2.alloc (.cells #[.slice (some ⟨w.heap.size + 1, 0, none⟩) s.size cap, .string ⟨#[]⟩] 55)) (w.heap.size + 1) s := hS.alloc _
  refine (readBlock_any W2.heap.size (w.heap.size + 1) cap a s _ hS3 (by simp [World.cell?_alloc_at]) hs hcap h3 hP hE).mono ?_
  rintro e w1 ⟨he, hb⟩
  have hb3 : Below (w.heap.size + 1) _ w1 := (hB.alloc (by omega) _).trans (hb.mono (by simp; omega))
  obtain ⟨r0, r1, r2, r3⟩ := four_kept2 hb3
  have hz0 := frozen_kept2 hb3 0
  have hz1 := frozen_kept2 hb3 1
  have hz2 := frozen_kept2 hb3 2
  have hz3 := frozen_kept2 hb3 3
  have HB := Aside0.mk (below_one (by simpa using hb3))
  clear hS hB hb hb3 hS3 kb hT
  rcases he with ⟨hbad, g, rfl⟩ | ⟨l, hgood, rfl⟩
  · go_wp2
    refine bodyPost_ret (v := .tuple #[.agg #[.int .i64 0, .int .i64 0, .int .i64 0, .string ⟨#[]⟩], .iface 71 (.pointer (some ⟨g, 0, none⟩))]) (by simp [results, Tryz.results13, go_sem, r0, r1, r2, r3]) rfl ⟨.inl ⟨hbad, g, rfl⟩, ?_⟩
    exact below_four HB.out
  · go_wp2
    refine bodyPost_ret (v := .tuple #[.agg #[.int .i64 19, .int .i64 0, .int .i64 ((a : Int) + 3), .string (valueL l)], .nilIface]) (by simp [results, Tryz.results13, go_sem, r0, r1, r2, r3]) rfl ⟨.inr ⟨l, hgood, rfl⟩, ?_⟩
    exact below_four HB.out

def ImplEnd (s : ByteArray) (a : Nat) (e : Ending) : Prop :=
  (BadEnd s a ∧ e = .returned (.tuple #[.agg #[.int .i64 0, .string ⟨#[]⟩, .int .i64 0, .int .i64 0], .bool false])) ∨
  (∃ l, GoodEnd s a l ∧ e = .returned (.tuple #[.agg #[.int .i64 19, .string (valueL l), .int .i64 0, .int .i64 ((a : Int) + 3)], .bool true]))

set_option maxRecDepth 100000 in
set_option maxHeartbeats 2000000 in
theorem implReadBlock (a : Nat) (s : ByteArray) (w : World) (hT : Lib.Utf8Tabs 1 2 w) (hs : s.size ≤ 2000) (hq : startsB s 0 quotes = true) (hP : Path s 3 a) (hE : BadEnd s a ∨ ∃ l, GoodEnd s a l) :
    Calls Tryz.prog 6 #[.string s] w fun e w' => ImplEnd s a e ∧ Below w.heap.size w w' := by
  have h3 : 3 ≤ s.size := by have h := starts_le hq; have h2 : quotes.size = 3 := rfl; omega
  have HC := Aside0.mk (fun W (hb : Below w.heap.size w W) => lexReadBlock a s W (utf8_below hT hb) hs h3 hP hE)
  have h3i : (3 : Int) ≤ (s.size : Int) := by omega
  have hex : ((s.extract 0 3).toList == [34, 34, 34]) = true := by
    unfold startsB at hq
    rw [Bool.and_eq_true] at hq
    have h := hq.2
    rw [show quotes.toList = [34, 34, 34] by decide +kernel] at h
    exact h
  clear hT hP hE hq
  go_enter Tryz.func6, Tryz.ntmps6
  go_wp2_with fail
  refine (HC.out _ (by exact below_alloc (Below.refl _ _) _)).mono ?_
  rintro e w1 ⟨he, hb⟩
  have hb3 : Below (w.heap.size + 1) (w.alloc (.cells #[.int .i64 0, .string ⟨#[]⟩, .int .i64 0, .int .i64 0] 24)) w1 := by simpa using hb
  obtain ⟨r0, r1, r2, r3⟩ := four_kept2 hb3
  have hz0 := frozen_kept2 hb3 0
  have hz1 := frozen_kept2 hb3 1
  have hz2 := frozen_kept2 hb3 2
  have hz3 := frozen_kept2 hb3 3
  have HB := Aside0.mk (below_one (by simpa using hb3))
  rcases he with ⟨hbad, g, rfl⟩ | ⟨l, hgood, rfl⟩
  · have hlt : w.heap.size < w1.heap.size := by have := hb3.size; simp at this; omega
    clear hb hb3 HC
    go_wp2_with fail
    refine bodyPost_ret (v := .tuple #[.agg #[.int .i64 0, .string ⟨#[]⟩, .int .i64 0, .int .i64 0], .bool false]) (by simp [results, Tryz.results6, go_sem, r0, r1, r2, r3, hlt, World.cell?_alloc_old]) rfl ⟨.inl ⟨hbad, rfl⟩, ?_⟩
    exact below_alloc (below_four HB.out) _
  · clear r0 r1 r2 r3 hz0 hz1 hz2 hz3 hb HC
    go_wp2_with fail
    refine (token_any _ _ _ _ _).mono ?_
    rintro e w2 ⟨rfl, hb2⟩
    have hb4 := hb3.trans ((below_one hb2).mono (by have := hb3.size; simp at this; omega))
    obtain ⟨r0, r1, r2, r3⟩ := four_kept2 hb4
    have hz0 := frozen_kept2 hb4 0
    have hz1 := frozen_kept2 hb4 1
    have hz2 := frozen_kept2 hb4 2
    have hz3 := frozen_kept2 hb4 3
    have HB2 := Aside0.mk (below_one (by simpa using hb4))
    clear hb3 hb4 hb2 HB
    go_wp2_with fail
    refine bodyPost_ret (v := .tuple #[.agg #[.int .i64 19, .string (valueL l), .int .i64 0, .int .i64 ((a : Int) + 3)], .bool true]) (by simp [results, Tryz.results6, go_sem, r0, r1, r2, r3]) rfl ⟨.inr ⟨l, hgood, rfl⟩, ?_⟩
    exact below_four HB2.out
end Go.Proofs.YtklgaldpcaogbaaGreatDoor.Block
namespace Go.Proofs.YtklgaldpcaogbaaGreatDoor.Block
set_option linter.unusedVariables false
set_option linter.unusedSimpArgs false
open Go.RowKit Go.Proofs.YtklgaldpcaogbaaGreatDoor.Mem Go.Proofs.YtklgaldpcaogbaaGreatDoor.Lex Go.Proofs.YtklgaldpcaogbaaGreatDoor.Rune Go.Proofs.YtklgaldpcaogbaaGreatDoor.Err Go.Proofs.YtklgaldpcaogbaaGreatDoor.LinesP Go.Proofs.YtklgaldpcaogbaaGreatDoor.PFnReadBlock Go.Proofs.YtklgaldpcaogbaaGreatDoorW.PrintWords Go.Proofs.YtklgaldpcaogbaaGreatDoorW.PrintLast

theorem ends_apart {s : ByteArray} {a : Nat} {l : List ByteArray} (h1 : BadEnd s a) (h2 : GoodEnd s a l) : False := by
  have h3 := (yes_quotes h2.1).1
  rcases h1 with h | ⟨_, h, _⟩
  · omega
  · rw [h2.1] at h; cases h
theorem lines_same {s : ByteArray} {l l' : List ByteArray} (h : IsLines s l) (h' : IsLines s l') : l = l' := by
  have h1 := (h.2 (2 * s.size + 3) (by omega)).1
  rw [(h'.2 (2 * s.size + 3) (by omega)).1] at h1
  exact (Option.some.inj h1).symm
theorem implBad {a : Nat} {s : ByteArray} {w : World} (hT : Lib.Utf8Tabs 1 2 w) (hs : s.size ≤ 2000) (hq : startsB s 0 quotes = true) (hP : Path s 3 a) (hE : BadEnd s a) :
    Calls Tryz.prog 6 #[.string s] w fun e w' => e = .returned (.tuple #[.agg #[.int .i64 0, .string ⟨#[]⟩, .int .i64 0, .int .i64 0], .bool false]) ∧ Below w.heap.size w w' := by
  refine (implReadBlock a s w hT hs hq hP (.inl hE)).mono ?_
  rintro e w' ⟨⟨_, rfl⟩ | ⟨l, hg, _⟩, hb⟩
  · exact ⟨rfl, hb⟩
  · exact absurd hg (fun h => ends_apart hE h)
theorem implGood {a : Nat} {s : ByteArray} {l : List ByteArray} {w : World} (hT : Lib.Utf8Tabs 1 2 w) (hs : s.size ≤ 2000) (hq : startsB s 0 quotes = true) (hP : Path s 3 a) (hE : GoodEnd s a l) :
    Calls Tryz.prog 6 #[.string s] w fun e w' => e = .returned (.tuple #[.agg #[.int .i64 19, .string (valueL l), .int .i64 0, .int .i64 ((a : Int) + 3)], .bool true]) ∧ Below w.heap.size w w' := by
  refine (implReadBlock a s w hT hs hq hP (.inr ⟨l, hE⟩)).mono ?_
  rintro e w' ⟨⟨hb, _⟩ | ⟨l', hg, rfl⟩, hb⟩
  · exact absurd hE (fun h => ends_apart hb h)
  · rw [lines_same hE.2.1 hg.2.1]
    exact ⟨rfl, hb⟩
theorem short_le {k : Nat} {s : ByteArray} (h : laws_short9.f k s = some true) : s.size ≤ 2000 := by
  unfold laws_short9.f at h
  by_cases hs : (s.size : Int) ≤ 2000
  · omega
  · rw [if_neg hs] at h; cases h

set_option maxRecDepth 100000 in
set_option maxHeartbeats 4000000 in
theorem law (s : ByteArray) (w : World) (hT : Lib.Utf8Tabs 1 2 w) (hs : s.size ≤ 140737488351232) :
    Calls Tryz.prog 3 #[.string s] w fun e w' => e = .returned (.bool true) ∧ Below w.heap.size w w' := by
  obtain ⟨k, r, hr⟩ := NameP.short9_total s
  have HR := Aside0.mk hr
  have hle : r = true → s.size ≤ 2000 := fun h => short_le (by rw [← h]; exact hr)
  clear hr
  have HT := Aside0.mk hT
  clear hT
  by_cases hbig : 2147483647 < s.size
  · have hb : (2147483647 : Int) < (s.size : Int) := by omega
    go_enter Tryz.func3, Tryz.ntmps3
    go_wp2
    go_ret
    exact ⟨rfl, Below.refl _ _⟩
  · have hb : ¬ (2147483647 : Int) < (s.size : Int) := by omega
    cases r with
    | false =>
      clear hle
      go_enter Tryz.func3, Tryz.ntmps3
      go_wp2_with fail
      refine (laws_short9.calls k s false _ HR.out).mono ?_
      rintro e w' ⟨rfl, ⟨nd, rfl⟩⟩
      go_wp2_with fail
      go_ret
      exact ⟨rfl, pw_below_drewN (Below.refl _ _) _⟩
    | true =>
      have hs2 : s.size ≤ 2000 := hle rfl
      clear hle
      by_cases h3 : s.size < 3
      · have h3i : (s.size : Int) < 3 := by omega
        go_enter Tryz.func3, Tryz.ntmps3
        go_wp2_with fail
        refine (laws_short9.calls k s true _ HR.out).mono ?_
        rintro e w' ⟨rfl, ⟨nd, rfl⟩⟩
        go_wp2_with fail
        go_ret
        exact ⟨rfl, pw_below_drewN (Below.refl _ _) _⟩
      · have h3i : (3 : Int) ≤ (s.size : Int) := by omega
        cases hex : ((s.extract 0 3).toList == [34, 34, 34]) with
        | false =>
          go_enter Tryz.func3, Tryz.ntmps3
          go_wp2_with fail
          refine (laws_short9.calls k s true _ HR.out).mono ?_
          rintro e w' ⟨rfl, ⟨nd, rfl⟩⟩
          go_wp2_with fail
          go_ret
          exact ⟨rfl, pw_below_drewN (Below.refl _ _) _⟩
        | true =>
          have hq : startsB s 0 quotes = true := by
            unfold startsB
            rw [decide_eq_true (show 0 + quotes.size ≤ s.size by show 0 + 3 ≤ _; omega), Bool.true_and, show quotes.toList = [34, 34, 34] by decide +kernel]
            exact hex
          have HN := Aside0.mk (fun W => specReadBlock s W hs2 hq)
          have HBad := Aside0.mk (fun a W (hb : Below w.heap.size w W) hP hE => implBad (a := a) (utf8_below HT.out hb) hs2 hq hP hE)
          have HGood := Aside0.mk (fun a l W (hb : Below w.heap.size w W) hP hE => implGood (a := a) (l := l) (utf8_below HT.out hb) hs2 hq hP hE)
          clear hq
          go_enter Tryz.func3, Tryz.ntmps3
          go_wp2_with fail
          refine (laws_short9.calls k s true _ HR.out).mono ?_
          rintro e w' ⟨rfl, ⟨nd, rfl⟩⟩
          go_wp2_with fail
          refine (HN.out _).mono ?_
          rintro e w1 ⟨t, ok, sure, rfl, hb1, hA⟩
          have h1 : Below w.heap.size w w1 := ⟨hb1.os, hb1.tape, hb1.output, hb1.size, hb1.block⟩
          unfold aggT
          cases sure with
          | false =>
            clear hA
            go_wp2_with fail
            go_ret
            exact ⟨rfl, below_alloc h1 _⟩
          | true =>
            rcases hA rfl with ⟨rfl, a, hP, hE⟩ | ⟨rfl, a, l, hP, hle, hq, hIs, hpl, rfl⟩
            · have HI := Aside0.mk (fun W (hb : Below w.heap.size w W) => HBad.out a W hb hP hE)
              clear hP hE hA
              go_wp2_with fail
              refine (HI.out _ (by exact below_alloc h1 _)).mono ?_
              rintro e w2 ⟨rfl, hb2⟩
              obtain ⟨r0, r1, r2, r3⟩ := four_kept1 hb2
              have hlt : w1.heap.size < w2.heap.size := by have hlt := hb2.size; simp only [World.size_alloc] at hlt; omega
              have h2 := h1.trans ((below_one hb2).mono h1.size)
              clear HI hb2
              go_wp2_with fail
              refine (laws_told9.calls 0 ⟨#[]⟩ 0 0 false t.kind t.value t.start t.stop false true _ (by simp [laws_told9.f])).mono ?_
              rintro e w3 ⟨rfl, hb3⟩
              go_wp2_with fail
              go_ret
              exact ⟨rfl, h2.trans ((below_one hb3).mono h2.size)⟩
            · have HI := Aside0.mk (fun W (hb : Below w.heap.size w W) => HGood.out a l W hb hP ⟨hq, hIs, hpl⟩)
              clear hP hq hIs hpl hA
              go_wp2_with fail
              refine (HI.out _ (by exact below_alloc h1 _)).mono ?_
              rintro e w2 ⟨rfl, hb2⟩
              obtain ⟨r0, r1, r2, r3⟩ := four_kept1 hb2
              have hlt : w1.heap.size < w2.heap.size := by have hlt := hb2.size; simp only [World.size_alloc] at hlt; omega
              have h2 := h1.trans ((below_one hb2).mono h1.size)
              clear HI hb2
              generalize valueL l = x at *
              go_wp2_with fail
              refine (laws_told9.calls 19 x 0 ((a : Int) + 3) true 19 x 0 ((a : Int) + 3) true true _ (by simp [laws_told9.f])).mono ?_
              rintro e w3 ⟨rfl, hb3⟩
              go_wp2_with fail
              go_ret
              exact ⟨rfl, h2.trans ((below_one hb3).mono h2.size)⟩
end Go.Proofs.YtklgaldpcaogbaaGreatDoor.Block
namespace Go.Proofs.YtklgaldpcaogbaaGreatDoor.BlockL
open Go.ChangeShapes Go.WideShapes Go.ChangeAt Go.RowKit
open Go.ChangeMaps (open_string shut_string)
set_option linter.unusedVariables false

theorem own : ownKnob Tryz.prog.godebug = none := by kernel_rfl
theorem first_eq : Rows.laid_unicode_utf8_first = Lib.firstData := by kernel_rfl
theorem accept_eq : (Rows.laid_unicode_utf8_acceptRanges : DataW Unit) = Lib.acceptData := by kernel_rfl

def tabRen : Go.Shelf.Ren := ⟨fun n => n, fun | 5 => 5 | 119 => 90 | 138 => 92 | 139 => 93 | n => n, fun | 3 => 1 | 4 => 2 | n => n⟩
theorem types8 : U8Types Tryz.prog tabRen := ⟨Tryz.underlying5, Tryz.underlying90, Tryz.underlying92, Tryz.underlying93⟩
theorem extra8 : U8Extra Tryz.prog tabRen := ⟨by kernel_rfl, by kernel_rfl, by kernel_rfl, by kernel_rfl, by kernel_rfl, by kernel_rfl, by kernel_rfl⟩

theorem tabs {W : World} (h : laidMetH Tryz.prog Rows.fnReadBlockRow.laid W) : Lib.Utf8Tabs 1 2 W := by
  rw [MakeChecks.laidMetH_plain _ _ _ (by kernel_rfl)] at h
  have r4 := Lib.laidMet.reads h (.head _)
  have r3 := Lib.laidMet.reads h (.tail _ (.tail _ (.head _)))
  rw [accept_eq] at r4
  rw [first_eq] at r3
  exact utf8Tabs_of_readsT types8 extra8 r3 r4

set_option maxRecDepth 100000 in
theorem lifted (os : Os) (started : os.Started) (H : Type) (enc : TypeId × Value → H) :
    ReturnsInHanded {} Tryz.checked os 3 .any (fun w args => (Rows.fnReadBlockSpec.pre enc Tryz.prog Tryz.f3 Rows.fnReadBlockRow.domain false w args ∧ laidMetH Tryz.prog Rows.fnReadBlockRow.laid w) ∧ sizedMet enc Tryz.prog Tryz.f3 (OpenSpec.ofChange Rows.fnReadBlockSpec) false w args)
      (Rows.fnReadBlockSpec.post enc Tryz.prog Tryz.f3 false true false false) := by
  refine returnsInHanded_of_change_and (C := Tryz.checked) (X := fun w _ => laidMetH Tryz.prog Rows.fnReadBlockRow.laid w) (fun _ _ _ hh h => h.of_heap hh) own started (by kernel_rfl) Tryz.func3
    (ChangeSpec.witness_shaped (enc := enc) (C := Tryz.checked) (os := os) (X := fun w _ => laidMetH Tryz.prog Rows.fnReadBlockRow.laid w) false (World.laidAll Tryz.prog os Rows.fnReadBlockRow.laid) #[.string ByteArray.empty] 8 (World.laidAll_os _ _ _)
      (World.shaped_of_ZipB (by kernel_rfl) (by kernel_rfl)) (by kernel_rfl) (by kernel_rfl) (by kernel_rfl)
      (by rw [MakeChecks.laidMetH_plain _ _ _ (by kernel_rfl)]; exact laidMet_laidAll _ (by kernel_rfl) (by kernel_rfl))) ?_
  intro W base args ds gs before hval0 hW hc hsz0 hL _
  have hval : ∀ (j : Nat) t v, Tryz.f3.params[j]? = some t → args[j]? = some v → Value.okWide Tryz.prog W .any base t v := hval0
  have hsz : (DataW.weightsEach Tryz.prog (Tryz.f3.params.toList ++ Rows.fnReadBlockSpec.plain.varTypes Tryz.prog) (ds ++ gs)).all (· ≤ reachBytes) = true := hsz0
  have hW' := hW
  obtain ⟨p, q, hA0, hV, rfl, _, _⟩ := hW
  have hA : DataW.TrodAll enc Tryz.prog W 0 (fun _ => true) true Tryz.f3.params.toList args.toList ds p := hA0
  rw [Tryz.params3] at hA hval hsz
  obtain ⟨v0, d0, rfl, rfl, h0⟩ := trodAll_one hA
  obtain ⟨rfl, rfl⟩ := trodVars_none hV
  obtain ⟨a0, rfl, rfl, rfl, y0⟩ := open_string Tryz.underlying9 (hval 0 9 v0 rfl rfl) h0
  have w0 : a0.size ≤ 140737488351232 := by
    have z := sized_string hsz (j := 0) (t := 9) rfl rfl
    rw [Array.length_toList] at z
    exact z
  clear hA0 hval0 hsz0 hsz
  refine (Block.law a0 W (tabs hL) w0).mono fun e W' ⟨he, bel⟩ => ?_
  subst he
  exact ⟨_, rfl, _, _, _, [], _, [], hW', trodAll_mk1 (shut_bool Tryz.underlying4 _), trodAll_mk1 (shut_string Tryz.underlying9 y0), rfl, bel.frame _, fun h => by cases h⟩

theorem holds : Rows.FnReadBlockSaid :=
  OpenClaim.holds_of_wide 3 Tryz.f3 rfl rfl rfl rfl rfl rfl rfl ⟨rfl, rfl, rfl, rfl, rfl⟩ rfl rfl rfl rfl rfl (by kernel_rfl) Tryz.func3 (by kernel_rfl)
    (of_decide_eq_true (by kernel_rfl)) (by unfold Func.isWrapper; first | (rw [if_pos (by decide +kernel)]; kernel_rfl) | (rw [if_neg (by decide +kernel)]; exact ⟨rfl, rfl⟩))
    (fun os started H enc _ => lifted os started H enc)

theorem card_holds : Rows.FnReadBlockCardSaid :=
  Claim7.holds_tied_plain_at .later [] [.data, .sentinel, .pinned] true (true, "a0a8a1f4ed3b81089375530d32e7a7d9800af802bbd21d3a48495941fae796ac") true holds (fun _ h => by cases h) (by kernel_rfl) (fun _ h => by cases h) fnReadBlock_row_tie rfl ⟨rfl, rfl⟩ (by kernel_rfl) rfl
    (fun f fn hf hfn => by
      obtain rfl : f = 3 := Option.some.inj ((show Tryz.prog.funcNamed "given.example/pub-versicle/laws.FnReadBlock" = some 3 by kernel_rfl).symm.trans hf) |>.symm
      obtain rfl : fn = Tryz.f3 := (Option.some.inj (Tryz.func3.symm.trans hfn)).symm
      exact ⟨by kernel_rfl, fun j t ht => by
        rw [Tryz.params3] at ht
        have hm : t ∈ [9] := by simpa using Array.mem_of_getElem? ht
        have hall : ([9].all fun u => !Tryz.prog.wantsStandIn u) = true := by kernel_rfl
        exact (show Tryz.prog.wantsStandIn t = false by simpa using List.all_eq_true.1 hall t hm)⟩)
    (by kernel_rfl)
#print axioms card_holds
end Go.Proofs.YtklgaldpcaogbaaGreatDoor.BlockL
