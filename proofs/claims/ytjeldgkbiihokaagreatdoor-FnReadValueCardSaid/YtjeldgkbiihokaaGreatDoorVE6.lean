import Derived.Test.YtjeldgkbiihokaaGreatDoorVE1
import Derived.Test.YtjeldgkbiihokaaGreatDoorVE2
import Derived.Test.YtjeldgkbiihokaaGreatDoorVE3
import Derived.Test.YtjeldgkbiihokaaGreatDoorVE4
import Derived.Test.YtjeldgkbiihokaaGreatDoorVE5
import Derived.Test.YtjeldgkbiihokaaGreatDoorVC5
set_option maxRecDepth 100000
set_option maxHeartbeats 8000000
set_option linter.unusedVariables false
set_option linter.unusedSimpArgs false
namespace Go.Proofs.YtjeldgkbiihokaaGreatDoor.Rp
open Go.RowKit Go.Proofs.YtjeldgkbiihokaaGreatDoorW.PrintWords Go.Proofs.YtjeldgkbiihokaaGreatDoorW.PrintLast Go.Proofs.YtjeldgkbiihokaaGreatDoor.PFnReadValue Go.Proofs.YtjeldgkbiihokaaGreatDoor.Mod Go.Proofs.YtjeldgkbiihokaaGreatDoor.Tree Go.Proofs.YtjeldgkbiihokaaGreatDoor.Rel
theorem ba_list {v : ByteArray} {l : List UInt8} (h : v.toList = l) : v = ⟨l.toArray⟩ := by
 rw [Go.Lib.toList_data] at h
 exact ByteArray.ext (Array.toList_inj.1 (by simpa using h))
theorem here_any (cst : Bool) (L : List Tok) (i : Nat) (d wr : Int) (g : Nat) (w0 w : World) (hL : L.length ≤ 2000) (hi : i ≤ L.length)
  (HV : ∀ (j : Nat) (wr2 : Int) (wx : World), j ≤ L.length → IsS48 w0 wx g (L.map sT) j d wr2 false false → Below w0.heap.size w0 wx → Calls Tryz.prog 15 #[.pointer (some ⟨g, 0, none⟩), .bool cst] wx (VPost cst L j d g w0 wx))
  (HI : IsS48 w0 w g (L.map sT) i d wr false false) (HB : Below w0.heap.size w0 w) :
  Calls Tryz.prog 36 #[.pointer (some ⟨g, 0, none⟩), .bool cst] w (VPost cst L i d g w0 w) := by
 cases ht : L.drop i with
 | nil => exact here_end cst L i d wr g w0 w hL hi ht HI HB
 | cons t r =>
  by_cases h3 : t.kind = 3
  ·cases cst with
   | true => exact here_dollar true L i d wr g w0 w hL t r ht h3 rfl HI HB
   | false =>
    cases r with
    | nil => exact here_vno false L i d wr g w0 w hL t [] ht h3 rfl (by decide) HI HB
    | cons t2 r2 =>
     by_cases hk2 : t2.kind = 15
     ·exact here_var false L i d wr g w0 w hL t _ ht h3 rfl t2 r2 rfl hk2 HI HB
     ·exact here_vno false L i d wr g w0 w hL t _ ht h3 rfl hk2 HI HB
  by_cases h10 : t.kind = 10
  ·exact here_list cst L i d wr g w0 w hL t r ht h10 HV HI HB
  by_cases h12 : t.kind = 12
  ·exact here_obj cst L i d wr g w0 w hL t r ht h12 HV HI HB
  by_cases h15 : t.kind = 15
  ·by_cases ht1 : t.value = ⟨#[116, 114, 117, 101]⟩
   ·exact here_true cst L i d wr g w0 w hL t r ht h15 ht1 HI HB
   by_cases ht2 : t.value = ⟨#[102, 97, 108, 115, 101]⟩
   ·exact here_false cst L i d wr g w0 w hL t r ht h15 ht2 HI HB
   by_cases ht3 : t.value = ⟨#[110, 117, 108, 108]⟩
   ·exact here_null cst L i d wr g w0 w hL t r ht h15 ht3 HI HB
   ·exact here_word cst L i d wr g w0 w hL t r ht h15 (fun e => ht1 (ba_list e)) (fun e => ht2 (ba_list e)) (fun e => ht3 (ba_list e)) HI HB
  by_cases h16 : t.kind = 16
  ·exact here_16 cst L i d wr g w0 w hL t r ht h16 HI HB
  by_cases h17 : t.kind = 17
  ·exact here_17 cst L i d wr g w0 w hL t r ht h17 HI HB
  by_cases h18 : t.kind = 18
  ·exact here_18 cst L i d wr g w0 w hL t r ht h18 HI HB
  by_cases h19 : t.kind = 19
  ·exact here_19 cst L i d wr g w0 w hL t r ht h19 HI HB
  ·exact here_other cst L i d wr g w0 w hL t r ht (by intro k hk e; omega) HI HB
theorem val_all (cst : Bool) (L : List Tok) (hL : L.length ≤ 2000) (g : Nat) (w0 : World) : ∀ (m : Nat) (d : Int), 0 ≤ d → d + m = 60 →
  ∀ (j : Nat) (wr : Int) (w : World), j ≤ L.length → IsS48 w0 w g (L.map sT) j d wr false false → Below w0.heap.size w0 w →
  Calls Tryz.prog 15 #[.pointer (some ⟨g, 0, none⟩), .bool cst] w (VPost cst L j d g w0 w) := by
 intro m
 induction m with
 | zero => exact fun d h0 h1 j wr w hj hI hB => value_any cst L j d wr g w0 w hL hj h0 (by omega) (fun h => by omega) hI hB
 | succ m ih =>
  exact fun d h0 h1 j wr w hj hI hB => value_any cst L j d wr g w0 w hL hj h0 (by omega) (fun _ wx hIx hBx => here_any cst L j (d + 1) wr g w0 wx hL hj (ih (d + 1) (by omega) (by omega)) hIx hBx) hI hB
theorem reps_flat {α : Type} {R : α → List Value → Prop} {size : Nat} (c : α → List Value) (hl : ∀ x, (c x).length = size) (hR : ∀ x, R x (c x)) : ∀ xs : List α, Reps R size xs (xs.flatMap c)
 | [] => Reps.none _ _
 | x :: xs => by
  obtain ⟨h1, h2⟩ := reps_flat c hl hR xs
  rw [List.flatMap_cons]
  refine ⟨by rw [List.length_append, hl, h1, List.length_cons, Nat.succ_mul]; omega, fun j p hj => ?_⟩
  rcases j with _ | j
  ·obtain rfl : x = p := by simpa using hj
   rw [Nat.zero_mul, List.drop_zero, List.take_left' (hl x)]
   exact hR x
  ·have hj' : xs[j]? = some p := by simpa using hj
   rw [show (j + 1) * size = size + j * size by rw [Nat.succ_mul]; omega, ← List.drop_drop, List.drop_left' (hl x)]
   exact h2 j p hj'
theorem own_R {α : Type} {d : Kd α} {e base : Nat} {w : World} {v : Value} {xs : List α} (c : α → List Value) (hl : ∀ x, (c x).length = d.sz) (hM : ∀ ok x, d.M w base ok x (c x)) (h : w.ownsRow base e d.sz v xs.length (xs.flatMap c)) : d.R e w base (fun _ => True) v xs :=
 ⟨fun _ _ => trivial, _, h, reps_flat c hl (hM _) xs⟩
def c52 (x : S52) : List Value := [.int .i64 x.f0, .string x.f1, .int .i64 x.f2, .int .i64 x.f3]
def c54 (x : S54) : List Value := [.int .i64 x.f0, .string x.f1, .string x.f2, .string x.f3, .int .i64 x.f4, .int .i64 x.f5]
theorem own_52 {e base : Nat} {w : World} {v : Value} {xs : List S52} (h : w.ownsRow base e 4 v xs.length (xs.flatMap c52)) : Kd.R k52 e w base (fun _ => True) v xs :=
 own_R c52 (fun _ => rfl) (fun _ x => ⟨[_], _, rfl, rfl, [_], _, rfl, rfl, [_], _, rfl, rfl, rfl⟩) h
theorem own_54 {e base : Nat} {w : World} {v : Value} {xs : List S54} (h : w.ownsRow base e 6 v xs.length (xs.flatMap c54)) : Kd.R k54 e w base (fun _ => True) v xs :=
 own_R c54 (fun _ => rfl) (fun _ x => ⟨[_], _, rfl, rfl, [_], _, rfl, rfl, [_], _, rfl, rfl, [_], _, rfl, rfl, [_], _, rfl, rfl, rfl⟩) h
theorem toks_52 (l : List Tok) : Mem.toks (l.map Lex.cv) = (l.map sT).flatMap c52 := by
 unfold Mem.toks
 rw [List.flatMap_map, List.flatMap_map]
 rfl
theorem row_52 {w : World} {base : Nat} {A : Option Addr} {c : Nat} {l : List Tok} (h : Lex.RowAt w base (.slice A l.length c) (l.map Lex.cv)) : Kd.C k52 w A (l.map sT).length (l.map sT) := by
 have h' : w.ownsRow base 52 4 (.slice A l.length c) (l.map sT).length ((l.map sT).flatMap c52) := by
  rw [← toks_52, List.length_map]
  have h2 := h
  unfold Lex.RowAt at h2
  rw [List.length_map] at h2
  exact h2
 have h4 : (Value.slice A l.length c) = .slice A (l.map sT).length c := by rw [List.length_map]
 have h5 := own_52 h'
 rw [h4] at h5
 exact (Kd.R_reads' h5).2.2
def Answer (s : ByteArray) (cst : Bool) (l : List Tok) (whole : Bool) : Option (NL × Tok) := (sVal cst 200000 l).bind fun x => (headL s whole x.2).map fun t => (x.1, t)
def RdPost (s : ByteArray) (cst : Bool) (w : World) (e : Ending) (w' : World) : Prop :=
 Below w.heap.size w w' ∧ ∃ (v : Value) (next : Int) (ok sure : Bool), e = .returned (.tuple #[v, .int .i64 next, .bool ok, .bool sure]) ∧
  (sure = true → ∃ (l : List Tok) (whole : Bool), Chain s (TokAt Lex.blkV s) (BadAt s) whole 0 l ∧ l.length ≤ 2000 ∧
   ((ok = false ∧ Answer s cst l whole = none) ∨ (ok = true ∧ ∃ (ns : List S54) (x : NL) (t : Tok), Kd.R k54 54 w' w.heap.size (fun _ => True) v ns ∧ ns.length ≤ 2001 ∧ Lk ns x ∧ Answer s cst l whole = some (x, t) ∧ (next < 0 ∨ next = t.start))))
theorem bad_none {s : ByteArray} {cst : Bool} {l : List Tok} {whole : Bool} {d a dd : Int} {u : Bool} {ns : List S54} (h : VRes cst l 0 d ns a dd true u) (hu : u = false) (hl : l.length ≤ 2000) : Answer s cst l whole = none := by
 rcases h.2 with ⟨h, _⟩ | ⟨_, h | h⟩
 ·cases h
 ·rw [hu] at h; cases h
 ·unfold Answer
  have := h 200000 (by rw [List.drop_zero]; omega)
  rw [List.drop_zero] at this
  rw [this]
  rfl
theorem answer_some (s : ByteArray) {cst : Bool} {l : List Tok} (whole : Bool) {x : NL} {j : Nat} (h : ∀ n, (l.drop 0).length + 1 ≤ n → sVal cst n (l.drop 0) = some (x, l.drop j)) (hl : l.length ≤ 2000) : Answer s cst l whole = (headL s whole (l.drop j)).map fun t => (x, t) := by
 have := h 200000 (by rw [List.drop_zero]; omega)
 rw [List.drop_zero] at this
 unfold Answer
 rw [this]
 rfl
theorem rd_no {s : ByteArray} {cst : Bool} {l : List Tok} {whole sure : Bool} {w w2 : World} (hB : Below w.heap.size w w2) (hC : sure = true → Chain s (TokAt Lex.blkV s) (BadAt s) whole 0 l ∧ Answer s cst l whole = none) (hl : l.length ≤ 2000) : RdPost s cst w (.returned (.tuple #[.slice none 0 0, .int .i64 0, .bool false, .bool sure])) w2 :=
 ⟨hB, _, _, false, _, rfl, fun h => ⟨l, whole, (hC h).1, hl, .inl ⟨rfl, (hC h).2⟩⟩⟩
theorem rd_yes {s : ByteArray} {cst : Bool} {l : List Tok} {whole sure : Bool} {w w2 w3 : World} {v : Value} {ns : List S54} {x : NL} {t : Tok} {next : Int} (hB : Below w.heap.size w w2) (h3 : Below w2.heap.size w2 w3) (hC : sure = true → Chain s (TokAt Lex.blkV s) (BadAt s) whole 0 l) (hl : l.length ≤ 2000)
  (hR : Kd.R k54 54 w2 w.heap.size (fun _ => True) v ns) (hn : ns.length ≤ 2001) (hk : Lk ns x) (hA : Answer s cst l whole = some (x, t)) (hx : next < 0 ∨ next = t.start) : RdPost s cst w (.returned (.tuple #[v, .int .i64 next, .bool true, .bool sure])) w3 :=
 ⟨hB.trans (h3.mono hB.size), _, _, true, _, rfl, fun h => ⟨l, whole, hC h, hl, .inr ⟨rfl, ns, x, t, Kd.R_below hR h3, hn, hk, hA, hx⟩⟩⟩
theorem read_1 (s : ByteArray) (w : World) (hs : s.size ≤ 2000) :
  Calls Tryz.prog 8 #[.string s, .int .i64 1] w (RdPost s false w) := by
 have HLX := aK (Lex.lexed_any s w hs)
 go_enter Tryz.func8, Tryz.ntmps8
 go_wp2_with fail
 refine HLX.out.mono ?_
 rintro e w1 ⟨l, A, c, whole, uns, rfl, hc, hb, hrow, hl, hch⟩
 have hnew := IsS48.new w1 w1 A c (l.map sT) 0 0 0 false false (Below.refl _ _) (row_52 hrow)
 rw [List.length_map] at hnew
 have HNEW := aK hnew
 have HB1 := aK hb
 have HCH := aK hch
 have HL := aK hl
 have HV := aK (val_all false l hl w1.heap.size w1 60 0 (by omega) (by omega) 0 0 _ (Nat.zero_le _) hnew (below_alloc (Below.refl _ _) _))
 have HROW := aK (row_52 hrow)
 clear hnew hrow hb hch hl hc
 go_wp2_with fail
 refine HV.out.mono ?_
 rintro e w2 ⟨v, ns, a, dd, wr, b, u, rfl, hr, hi, hb2, hk, hv⟩
 obtain ⟨A2, c2, HG, hg, HS⟩ := hi
 have hc1 := cellS48_1 HG
 have hc4 := cellS48_4 HG
 have hc5 := cellS48_5 HG
 have HR := aK (Kd.R_lower hr (Nat.le_trans HB1.out.size (Nat.le_of_lt (by simp)) : w.heap.size ≤ _))
 have HB2 := aK (HB1.out.trans (hb2.mono HB1.out.size))
 have HB3 := aK hb2
 have HVR := aK hv
 clear hr hb2 hk hv HG HS
 cases b with
 | true =>
  have HN := aK (fun (h : u = false) => bad_none HVR.out h (s := s) (whole := whole) HL.out)
  cases uns <;> cases u
  all_goals
   go_wp2_with fail
   first
    | (refine bodyPost_ret (v := .tuple #[.slice none 0 0, .int .i64 0, .bool false, .bool true]) ?_ rfl (rd_no HB2.out (fun h => ⟨HCH.out trivial, HN.out trivial⟩) HL.out); simp [results, Tryz.results8, go_sem]; done)
    | (refine bodyPost_ret (v := .tuple #[.slice none 0 0, .int .i64 0, .bool false, .bool false]) ?_ rfl (rd_no (whole := whole) (l := l) HB2.out (fun h => absurd h Bool.false_ne_true) HL.out); simp [results, Tryz.results8, go_sem]; done)
 | false =>
  rcases HVR.out.2 with ⟨_, hu, hdd, j, x, hj, h0j, hjl, hnj, hs2, hlk⟩ | ⟨h, _⟩
  rotate_left
  ·cases h
  subst hu hj
  have HLK := aK hlk
  have HAN := aK (answer_some s whole hs2 HL.out)
  have HNL := aK (show ns.length ≤ 2001 by have := HVR.out.1; have := HL.out; omega)
  clear hlk hs2 hnj HVR
  by_cases hlt : j < l.length
  ·obtain ⟨t, r, ht⟩ : ∃ t r, l.drop j = t :: r := by
    cases h : l.drop j with
    | nil => have := ge_drop h; omega
    | cons t r => exact ⟨t, r, rfl⟩
   have HAS := aK (HAN.out.trans (by rw [ht]; rfl) : Answer s false l whole = some (x, t))
   obtain ⟨ad, ea, hx0, hx1, hx2, hx3⟩ := at_T52 HROW.out (j : Int) (by omega) (by rw [List.length_map]; omega)
   subst ea
   replace hx2 := pw_cell_below HB3.out hx2
   rw [rd_at ht, Int.toNat_natCast] at hx2
   simp only [sT] at hx2
   clear hx0 hx1 hx3 ht
   have p1 := eq_true (show 0 ≤ (j : Int) by omega)
   have p2 := eq_true (show (j : Int) < (l.length : Int) by omega)
   have hge : decide (l.length ≤ j) = false := decide_eq_false (by omega)
   cases uns
   all_goals
    go_wp2_with fail
    go_quiet (fail)
    go_wp2_with fail
    first
     | (refine bodyPost_ret (v := .tuple #[v, .int .i64 t.start, .bool true, .bool true]) ?_ rfl (rd_yes HB2.out (pw_below_drewN (Below.refl _ _) _) (fun h => HCH.out trivial) HL.out HR.out HNL.out HLK.out HAS.out (.inr rfl)); simp [results, Tryz.results8, go_sem]; done)
     | (refine bodyPost_ret (v := .tuple #[v, .int .i64 t.start, .bool true, .bool false]) ?_ rfl (rd_yes HB2.out (pw_below_drewN (Below.refl _ _) _) (fun h => absurd h Bool.false_ne_true) HL.out HR.out HNL.out HLK.out HAS.out (.inr rfl)); simp [results, Tryz.results8, go_sem]; done)
  ·obtain rfl : j = l.length := by omega
   have hge : decide (l.length ≤ l.length) = true := decide_eq_true (Nat.le_refl _)
   have hdr : l.drop l.length = [] := List.drop_length
   rw [hdr] at HAN
   cases whole <;> cases uns
   all_goals
    go_wp2_with fail
    first
     | (refine bodyPost_ret (v := .tuple #[.slice none 0 0, .int .i64 0, .bool false, .bool true]) ?_ rfl (rd_no HB2.out (fun h => ⟨HCH.out trivial, HAN.out⟩) HL.out); simp [results, Tryz.results8, go_sem]; done)
     | (refine bodyPost_ret (v := .tuple #[.slice none 0 0, .int .i64 0, .bool false, .bool false]) ?_ rfl (rd_no (whole := false) (l := l) HB2.out (fun h => absurd h Bool.false_ne_true) HL.out); simp [results, Tryz.results8, go_sem]; done)
     | (refine bodyPost_ret (v := .tuple #[v, .int .i64 (-1), .bool true, .bool true]) ?_ rfl (rd_yes HB2.out (Below.refl _ _) (fun h => HCH.out trivial) HL.out HR.out HNL.out HLK.out HAN.out (.inl (by decide))); simp [results, Tryz.results8, go_sem]; done)
     | (refine bodyPost_ret (v := .tuple #[v, .int .i64 (-1), .bool true, .bool false]) ?_ rfl (rd_yes HB2.out (Below.refl _ _) (fun h => absurd h Bool.false_ne_true) HL.out HR.out HNL.out HLK.out HAN.out (.inl (by decide))); simp [results, Tryz.results8, go_sem]; done)
theorem read_2 (s : ByteArray) (w : World) (hs : s.size ≤ 2000) :
  Calls Tryz.prog 8 #[.string s, .int .i64 2] w (RdPost s true w) := by
 have HLX := aK (Lex.lexed_any s w hs)
 go_enter Tryz.func8, Tryz.ntmps8
 go_wp2_with fail
 refine HLX.out.mono ?_
 rintro e w1 ⟨l, A, c, whole, uns, rfl, hc, hb, hrow, hl, hch⟩
 have hnew := IsS48.new w1 w1 A c (l.map sT) 0 0 0 false false (Below.refl _ _) (row_52 hrow)
 rw [List.length_map] at hnew
 have HNEW := aK hnew
 have HB1 := aK hb
 have HCH := aK hch
 have HL := aK hl
 have HV := aK (val_all true l hl w1.heap.size w1 60 0 (by omega) (by omega) 0 0 _ (Nat.zero_le _) hnew (below_alloc (Below.refl _ _) _))
 have HROW := aK (row_52 hrow)
 clear hnew hrow hb hch hl hc
 go_wp2_with fail
 refine HV.out.mono ?_
 rintro e w2 ⟨v, ns, a, dd, wr, b, u, rfl, hr, hi, hb2, hk, hv⟩
 obtain ⟨A2, c2, HG, hg, HS⟩ := hi
 have hc1 := cellS48_1 HG
 have hc4 := cellS48_4 HG
 have hc5 := cellS48_5 HG
 have HR := aK (Kd.R_lower hr (Nat.le_trans HB1.out.size (Nat.le_of_lt (by simp)) : w.heap.size ≤ _))
 have HB2 := aK (HB1.out.trans (hb2.mono HB1.out.size))
 have HB3 := aK hb2
 have HVR := aK hv
 clear hr hb2 hk hv HG HS
 cases b with
 | true =>
  have HN := aK (fun (h : u = false) => bad_none HVR.out h (s := s) (whole := whole) HL.out)
  cases uns <;> cases u
  all_goals
   go_wp2_with fail
   first
    | (refine bodyPost_ret (v := .tuple #[.slice none 0 0, .int .i64 0, .bool false, .bool true]) ?_ rfl (rd_no HB2.out (fun h => ⟨HCH.out trivial, HN.out trivial⟩) HL.out); simp [results, Tryz.results8, go_sem]; done)
    | (refine bodyPost_ret (v := .tuple #[.slice none 0 0, .int .i64 0, .bool false, .bool false]) ?_ rfl (rd_no (whole := whole) (l := l) HB2.out (fun h => absurd h Bool.false_ne_true) HL.out); simp [results, Tryz.results8, go_sem]; done)
 | false =>
  rcases HVR.out.2 with ⟨_, hu, hdd, j, x, hj, h0j, hjl, hnj, hs2, hlk⟩ | ⟨h, _⟩
  rotate_left
  ·cases h
  subst hu hj
  have HLK := aK hlk
  have HAN := aK (answer_some s whole hs2 HL.out)
  have HNL := aK (show ns.length ≤ 2001 by have := HVR.out.1; have := HL.out; omega)
  clear hlk hs2 hnj HVR
  by_cases hlt : j < l.length
  ·obtain ⟨t, r, ht⟩ : ∃ t r, l.drop j = t :: r := by
    cases h : l.drop j with
    | nil => have := ge_drop h; omega
    | cons t r => exact ⟨t, r, rfl⟩
   have HAS := aK (HAN.out.trans (by rw [ht]; rfl) : Answer s true l whole = some (x, t))
   obtain ⟨ad, ea, hx0, hx1, hx2, hx3⟩ := at_T52 HROW.out (j : Int) (by omega) (by rw [List.length_map]; omega)
   subst ea
   replace hx2 := pw_cell_below HB3.out hx2
   rw [rd_at ht, Int.toNat_natCast] at hx2
   simp only [sT] at hx2
   clear hx0 hx1 hx3 ht
   have p1 := eq_true (show 0 ≤ (j : Int) by omega)
   have p2 := eq_true (show (j : Int) < (l.length : Int) by omega)
   have hge : decide (l.length ≤ j) = false := decide_eq_false (by omega)
   cases uns
   all_goals
    go_wp2_with fail
    go_quiet (fail)
    go_wp2_with fail
    first
     | (refine bodyPost_ret (v := .tuple #[v, .int .i64 t.start, .bool true, .bool true]) ?_ rfl (rd_yes HB2.out (pw_below_drewN (Below.refl _ _) _) (fun h => HCH.out trivial) HL.out HR.out HNL.out HLK.out HAS.out (.inr rfl)); simp [results, Tryz.results8, go_sem]; done)
     | (refine bodyPost_ret (v := .tuple #[v, .int .i64 t.start, .bool true, .bool false]) ?_ rfl (rd_yes HB2.out (pw_below_drewN (Below.refl _ _) _) (fun h => absurd h Bool.false_ne_true) HL.out HR.out HNL.out HLK.out HAS.out (.inr rfl)); simp [results, Tryz.results8, go_sem]; done)
  ·obtain rfl : j = l.length := by omega
   have hge : decide (l.length ≤ l.length) = true := decide_eq_true (Nat.le_refl _)
   have hdr : l.drop l.length = [] := List.drop_length
   rw [hdr] at HAN
   cases whole <;> cases uns
   all_goals
    go_wp2_with fail
    first
     | (refine bodyPost_ret (v := .tuple #[.slice none 0 0, .int .i64 0, .bool false, .bool true]) ?_ rfl (rd_no HB2.out (fun h => ⟨HCH.out trivial, HAN.out⟩) HL.out); simp [results, Tryz.results8, go_sem]; done)
     | (refine bodyPost_ret (v := .tuple #[.slice none 0 0, .int .i64 0, .bool false, .bool false]) ?_ rfl (rd_no (whole := false) (l := l) HB2.out (fun h => absurd h Bool.false_ne_true) HL.out); simp [results, Tryz.results8, go_sem]; done)
     | (refine bodyPost_ret (v := .tuple #[v, .int .i64 (-1), .bool true, .bool true]) ?_ rfl (rd_yes HB2.out (Below.refl _ _) (fun h => HCH.out trivial) HL.out HR.out HNL.out HLK.out HAN.out (.inl (by decide))); simp [results, Tryz.results8, go_sem]; done)
     | (refine bodyPost_ret (v := .tuple #[v, .int .i64 (-1), .bool true, .bool false]) ?_ rfl (rd_yes HB2.out (Below.refl _ _) (fun h => absurd h Bool.false_ne_true) HL.out HR.out HNL.out HLK.out HAN.out (.inl (by decide))); simp [results, Tryz.results8, go_sem]; done)
end Go.Proofs.YtjeldgkbiihokaaGreatDoor.Rp
