import Derived.Test.YtklgaldpcaogbaaGreatDoorRune
import Derived.Lib.SlBytesRow
import Derived.Lib.ConvBytes
namespace Go.Proofs.YtklgaldpcaogbaaGreatDoor.Rune
open Go.RowKit Go.Proofs.YtklgaldpcaogbaaGreatDoor.Mem Go.Proofs.YtklgaldpcaogbaaGreatDoor.Lex Go.Proofs.YtklgaldpcaogbaaGreatDoorW.PrintWords

theorem four_kept1 {w w1 : World} {t : TypeId} {x0 x1 x2 x3 : Value} (hb : Below (w.alloc (.cells #[x0, x1, x2, x3] t)).heap.size (w.alloc (.cells #[x0, x1, x2, x3] t)) w1) :
    w1.cell? ⟨w.heap.size, 0, none⟩ = some x0 ∧ w1.cell? ⟨w.heap.size, 1, none⟩ = some x1 ∧ w1.cell? ⟨w.heap.size, 2, none⟩ = some x2 ∧ w1.cell? ⟨w.heap.size, 3, none⟩ = some x3 := by
  have h := Blk.below (Blk.new w t #[x0, x1, x2, x3]) hb (by simp)
  exact ⟨(h.cell 0).trans rfl, (h.cell 1).trans rfl, (h.cell 2).trans rfl, (h.cell 3).trans rfl⟩
theorem frozen_kept1 {w w1 : World} {t : TypeId} {x0 x1 x2 x3 : Value} (hb : Below (w.alloc (.cells #[x0, x1, x2, x3] t)).heap.size (w.alloc (.cells #[x0, x1, x2, x3] t)) w1) (j : Nat) :
    w1.frozen? ⟨w.heap.size, j, none⟩ = false :=
  (Blk.below (Blk.new w t #[x0, x1, x2, x3]) hb (by simp)).frozen j
theorem below_one {w w1 : World} {o : Obj} (hb : Below (w.alloc o).heap.size (w.alloc o) w1) : Below w.heap.size w w1 :=
  ((Below.refl w.heap.size w).alloc (Nat.le_refl _) o).trans (hb.mono (by simp))
theorem below_four {w w1 : World} {x0 x1 x2 x3 : Value} (h : Below w.heap.size w w1) : Below w.heap.size w ((((w1.setCell ⟨w.heap.size, 0, none⟩ x0).setCell ⟨w.heap.size, 1, none⟩ x1).setCell ⟨w.heap.size, 2, none⟩ x2).setCell ⟨w.heap.size, 3, none⟩ x3) :=
  (((h.setCell (p := ⟨w.heap.size, 0, none⟩) (Nat.le_refl _) _).setCell (p := ⟨w.heap.size, 1, none⟩) (Nat.le_refl _) _).setCell (p := ⟨w.heap.size, 2, none⟩) (Nat.le_refl _) _).setCell (p := ⟨w.heap.size, 3, none⟩) (Nat.le_refl _) _

theorem nonempty_list {s : ByteArray} (h0 : 0 < s.size) : (s.toList == ([] : List UInt8)) = false := by
  rw [beq_eq_false_iff_ne]
  intro e
  have : s = ByteArray.empty := toList_inj (e.trans (by decide +kernel))
  rw [this] at h0
  exact absurd h0 (by decide)

theorem BodyAt.bytes {w : World} {bb : Nat} {s : ByteArray} (h : BodyAt w bb s) : Lib.Bytes w bb 0 s := fun i hi => by
  rw [Nat.zero_add, h i hi, ← bt_nat s i hi]

theorem decodeN_big (n b0 b1 b2 b3 : Nat) (h : 128 ≤ b0) : 128 ≤ (Lib.decodeN n b0 b1 b2 b3).1 := by
  unfold Lib.decodeN
  repeat' split
  all_goals (first | omega | (simp only []; omega) | (dsimp only; omega))

theorem decodeGo_big (s : ByteArray) (h0 : 0 < s.size) (h : 128 ≤ bt s 0) : 128 ≤ (Lib.decodeGo s).1 := by
  unfold Lib.decodeGo
  rw [if_neg (by omega), Lib.decode_at]
  refine decodeN_big _ _ _ _ _ ?_
  have h1 := bt_get s 0 h0
  simp only [Int.cast_ofNat_Int] at h1
  omega

theorem runeOf_ascii (s : ByteArray) (p : Nat) (hp : p < s.size) (h : bt s p < 128) : runeOf s p = (bt s p, 1) := by
  unfold runeOf
  rw [if_neg (by omega), if_pos h]

theorem runeOf_big (s : ByteArray) (p : Nat) (hp : p < s.size) (h : ¬ bt s p < 128) : 128 ≤ (runeOf s p).1 := by
  unfold runeOf
  rw [if_neg (by omega), if_neg h]
  have hsz : (s.extract p s.size).size = s.size - p := by rw [ByteArray.size_extract]; omega
  have h2 := decodeGo_big (s.extract p s.size) (by omega) (by
    have e : bt (s.extract p s.size) 0 = bt s p := by
      have a1 := bt_nat (s.extract p s.size) 0 (by omega)
      have a2 := ByteArray.getElem_extract (b := s) (start := p) (stop := s.size) (i := 0) (by omega)
      have a3 := bt_nat s p hp
      simp only [Nat.add_zero] at a2
      rw [a2] at a1
      simp only [Int.cast_ofNat_Int] at a1
      rw [← a1, a3]
    rw [e]; omega)
  show (128 : Int) ≤ ((Lib.decodeGo (s.extract p s.size)).1 : Int)
  omega

theorem utf8_below {w w' : World} (h : Lib.Utf8Tabs 1 2 w) (hb : Below w.heap.size w w') : Lib.Utf8Tabs 1 2 w' := Utf8Tabs_below h hb

/-- What a step of the lexer reads: the text's bytes, and the tables of unicode/utf8. -/
structure Src (w : World) (bb : Nat) (s : ByteArray) : Prop where
  body : BodyAt w bb s
  tabs : Lib.Utf8Tabs 1 2 w
theorem Src.below {w w' : World} {bb : Nat} {s : ByteArray} (h : Src w bb s) (hb : Below w.heap.size w w') : Src w' bb s := ⟨h.body.below hb, utf8_below h.tabs hb⟩
theorem Src.alloc {w : World} {bb : Nat} {s : ByteArray} (h : Src w bb s) (o : Obj) : Src (w.alloc o) bb s := h.below (below_alloc (Below.refl _ _) o)

theorem rune_src {w : World} {bb : Nat} {s : ByteArray} (h : Src w bb s) (p cap : Nat) (hcap : s.size ≤ cap) (hp : p ≤ 281474976710656) :
    Calls Tryz.prog 25 #[.slice (some ⟨bb, 0, none⟩) s.size cap, .int .i64 p] w fun e w' =>
      e = .returned (.tuple #[.int .i32 (runeOf s p).1, .int .i64 (runeOf s p).2]) ∧ Below w.heap.size w w' := runeAt_any bb p cap s w h.tabs h.body hcap hp

theorem four_kept2 {w w1 : World} {t : TypeId} {x0 x1 x2 x3 : Value} (hb : Below (w.heap.size + 1) (w.alloc (.cells #[x0, x1, x2, x3] t)) w1) :
    w1.cell? ⟨w.heap.size, 0, none⟩ = some x0 ∧ w1.cell? ⟨w.heap.size, 1, none⟩ = some x1 ∧ w1.cell? ⟨w.heap.size, 2, none⟩ = some x2 ∧ w1.cell? ⟨w.heap.size, 3, none⟩ = some x3 := four_kept1 (by simpa using hb)
theorem frozen_kept2 {w w1 : World} {t : TypeId} {x0 x1 x2 x3 : Value} (hb : Below (w.heap.size + 1) (w.alloc (.cells #[x0, x1, x2, x3] t)) w1) (j : Nat) :
    w1.frozen? ⟨w.heap.size, j, none⟩ = false := frozen_kept1 (by simpa using hb) j
set_option maxHeartbeats 1000000 in
theorem makeToken_any (k a b : Int) (v : ByteArray) (w : World) :
    Calls Tryz.prog 29 #[.int .i64 k, .int .i64 a, .int .i64 b, .string v] w fun e w' => e = .returned (.agg #[.int .i64 k, .int .i64 a, .int .i64 b, .string v]) ∧ Below w.heap.size w w' := by
  go_enter Tryz.func29, Tryz.ntmps29
  go_wp2
  refine bodyPost_ret (v := .agg #[.int .i64 k, .int .i64 a, .int .i64 b, .string v]) (by simp [results, Tryz.results29, go_sem]) rfl ⟨rfl, ?_⟩
  exact below_alloc (Below.refl _ _) _
theorem conv_part {w : World} {bb : Nat} {s : ByteArray} (h : Src w bb s) (p q cap : Nat) (hpq : p ≤ q) (hq : q ≤ s.size) :
    (convert 53 9 (.slice (some ⟨bb, p, none⟩) (q - p) (cap - p))).run Tryz.prog w = .ok (.string (s.extract p q)) w := by
  have h2 := Lib.run_convert_window (P := Tryz.prog) w 53 5 9 Tryz.underlying53 Tryz.underlying5 Tryz.underlying9 bb 0 s h.body.bytes p (q - p) (cap - p) (by omega)
  rw [Nat.zero_add, show p + (q - p) = q by omega] at h2
  exact h2

theorem bytes_body (W : World) (e : TypeId) (s : ByteArray) : BodyAt (Lib.bytesWorld W e s) W.heap.size s := fun j hj => by
  rw [Lib.bytesWorld_cell W e s j hj, ← bt_nat s j hj]
  have h' : j < s.data.toList.length := by rw [data_length]; exact hj
  rw [List.getD_eq_getElem?_getD, List.getElem?_eq_getElem h']
  rfl
theorem bytes_src (W : World) (s : ByteArray) (hT : Lib.Utf8Tabs 1 2 W) : Src (Lib.bytesWorld W 5 s) W.heap.size s :=
  ⟨bytes_body W _ s, utf8_below hT (bytes_below (Below.refl _ _) (Nat.le_refl _) _ s)⟩

theorem lex_facts (w : World) (s : ByteArray) (o : Obj) (hT : Lib.Utf8Tabs 1 2 w) :
    Src (Lib.bytesWorld (w.alloc o) 5 s) (w.heap.size + 1) s ∧ Below (w.heap.size + 1) (w.alloc o) (Lib.bytesWorld (w.alloc o) 5 s) ∧ (Lib.bytesWorld (w.alloc o) 5 s).heap.size = w.heap.size + 2 := by
  have h1 := bytes_src (w.alloc o) s (utf8_below hT (below_alloc (Below.refl _ _) _))
  have h2 : Below (w.alloc o).heap.size (w.alloc o) (Lib.bytesWorld (w.alloc o) 5 s) := bytes_below (Below.refl _ _) (Nat.le_refl _) _ s
  have h3 := Lib.bytesWorld_size (w.alloc o) 5 s
  rw [World.size_alloc] at h1 h2 h3
  exact ⟨h1, h2, h3⟩

set_option maxHeartbeats 1000000 in
theorem token_any (k a b : Int) (v : ByteArray) (w : World) :
    Calls Tryz.prog 14 #[.agg #[.int .i64 k, .int .i64 a, .int .i64 b, .string v]] w fun e w' => e = .returned (.agg #[.int .i64 k, .string v, .int .i64 a, .int .i64 b]) ∧ Below w.heap.size w w' := by
  go_enter Tryz.func14, Tryz.ntmps14
  go_wp2
  refine bodyPost_ret (v := .agg #[.int .i64 k, .string v, .int .i64 a, .int .i64 b]) (by simp [results, Tryz.results14, go_sem]) rfl ⟨rfl, ?_⟩
  exact below_alloc (below_alloc (Below.refl _ _) _) _

end Go.Proofs.YtklgaldpcaogbaaGreatDoor.Rune
