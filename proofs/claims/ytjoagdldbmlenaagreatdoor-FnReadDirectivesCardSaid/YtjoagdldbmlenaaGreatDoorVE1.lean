import Derived.Test.YtjoagdldbmlenaaGreatDoorVP8
import Derived.Test.YtjoagdldbmlenaaGreatDoorVA1
set_option maxRecDepth 100000
set_option maxHeartbeats 8000000
set_option linter.unusedVariables false
set_option linter.unusedSimpArgs false
namespace Go.Proofs.YtjoagdldbmlenaaGreatDoor.Rp
open Go.RowKit Go.Proofs.YtjoagdldbmlenaaGreatDoorW.PrintWords Go.Proofs.YtjoagdldbmlenaaGreatDoorW.PrintLast PFnReadDirectives Go.Proofs.YtjoagdldbmlenaaGreatDoor.Mod Tree Rel
def sT (t : Tok) : S49 := ⟨t.kind, t.value, t.start, t.stop⟩
def hk : List Tok → Int
 | [] => 1
 | t :: _ => t.kind
section
variable {L r : List Tok} {t : Tok} {i : Nat}
theorem lt_drop (h : L.drop i = t :: r) : i < L.length := by
 rcases Nat.lt_or_ge i L.length with h1 | h1
 ·exact h1
 ·rw [List.drop_eq_nil_of_le h1] at h; cases h
theorem ge_drop (h : L.drop i = []) : L.length ≤ i := List.drop_eq_nil_iff.1 h
theorem drop_next (h : L.drop i = t :: r) : L.drop (i + 1) = r := by
 rw [← List.drop_drop, h]; rfl
theorem rd_at (h : L.drop i = t :: r) : rd_T49 (L.map sT) (i : Int) = sT t := by
 have e : L[i]? = some t := by
  have := List.getElem?_drop (xs := L) (i := i) (j := 0)
  rw [h] at this
  simpa using this.symm
 unfold rd_T49
 rw [List.getD_eq_getElem?_getD, Int.toNat_natCast, List.getElem?_map, e]
 rfl
theorem rest_len (h : L.drop i = t :: r) : r.length + i + 1 = L.length := by
 have := congrArg List.length h
 have h2 := lt_drop h
 rw [List.length_drop, List.length_cons] at this
 omega
end
section
variable (L : List Tok) (i : Nat) (d wr : Int) (b u : Bool)
theorem w64 {x : Int} (h : -9223372036854775808 ≤ x) (h2 : x < 9223372036854775808) : wrap64 x = x := by unfold wrap64; omega
theorem kind_eq (hL : L.length ≤ 2000) (hi : i ≤ L.length) : spec_parser_kind.f (L.map sT) (i : Int) d wr b u 0 = some (hk (L.drop i), (i : Int), d, wr, b, u) := by
 unfold spec_parser_kind.f
 rw [show (i : Int) + 0 = i by omega, w64 (by omega) (by omega), List.length_map]
 cases h : L.drop i with
 | nil => have := ge_drop h; rw [if_pos (by omega)]; rfl
 | cons t r => have := lt_drop h; rw [if_neg (by omega), if_pos (by omega), if_pos (by omega), rd_at h]; rfl
theorem fail_eq (a : Int) (l : List S49) : ∃ wr', spec_parser_fail.f l a d wr b u = some ([], a, d, wr', true, u) := by
 unfold spec_parser_fail.f
 cases b
 ·exact ⟨a, by rw [if_neg (by decide)]⟩
 ·exact ⟨wr, by rw [if_pos rfl]⟩
theorem enter_eq (a : Int) (l : List S49) (hd : 0 ≤ d) (hd2 : d ≤ 1000) : spec_parser_enter.f l a d wr false u = if d ≥ 60 then some (false, a, d + 1, a, true, true) else some (true, a, d + 1, wr, false, u) := by
 unfold spec_parser_enter.f spec_parser_fail.f
 rw [w64 (by omega) (by omega)]
 by_cases h : d ≥ 60
 ·rw [if_pos (by omega), if_pos h]; rfl
 ·rw [if_neg (by omega), if_neg h]; rfl
theorem enter_bad (a : Int) (l : List S49) : ∃ d' u', (u = true → u' = true) ∧ spec_parser_enter.f l a d wr true u = some (false, a, d', wr, true, u') := by
 unfold spec_parser_enter.f spec_parser_fail.f
 by_cases h : wrap64 (d + 1) > 60
 ·exact ⟨_, true, fun _ => rfl, by rw [if_pos h]; rfl⟩
 ·exact ⟨_, u, id, by rw [if_neg h]; rfl⟩
theorem taken_bad (a : Int) (l : List S49) (k : Int) : spec_parser_taken.f l a d wr true u k = some (false, a, d, wr, true, u) := by
 unfold spec_parser_taken.f
 rw [if_pos rfl]
theorem taken_eq (hL : L.length ≤ 2000) (hi : i ≤ L.length) (k : Int) : spec_parser_taken.f (L.map sT) (i : Int) d wr false u k = if hk (L.drop i) = k then some (true, (i : Int) + 1, d, wr, false, u) else some (false, (i : Int), d, wr, false, u) := by
 unfold spec_parser_taken.f
 rw [if_neg (by decide), kind_eq L i d wr false u hL hi]
 simp only [Option.bind_some]
 rw [w64 (x := (i : Int) + 1) (by omega) (by omega)]
theorem must_bad (a : Int) (l : List S49) (k : Int) : spec_parser_must.f l a d wr true u k = some (a, d, wr, true, u) := by
 unfold spec_parser_must.f
 rw [taken_bad]
 rfl
theorem must_eq (hL : L.length ≤ 2000) (hi : i ≤ L.length) (k : Int) : spec_parser_must.f (L.map sT) (i : Int) d wr false u k = if hk (L.drop i) = k then some ((i : Int) + 1, d, wr, false, u) else some ((i : Int), d, (i : Int), true, u) := by
 unfold spec_parser_must.f
 rw [taken_eq L i d wr u hL hi]
 by_cases h : hk (L.drop i) = k
 ·rw [if_pos h, if_pos h]; rfl
 ·rw [if_neg h, if_neg h]; rfl
theorem name_no (hL : L.length ≤ 2000) (hi : i ≤ L.length) (h : hk (L.drop i) ≠ 15) : spec_parser_name.f (L.map sT) (i : Int) d wr false u = some (emp, (i : Int), d, (i : Int), true, u) := by
 unfold spec_parser_name.f
 rw [if_neg (by decide), kind_eq L i d wr false u hL hi]
 simp only [Option.bind_some]
 rw [if_neg h]
 rfl
theorem name_yes {t : Tok} {r : List Tok} (hL : L.length ≤ 2000) (h : L.drop i = t :: r) (h2 : t.kind = 15) : spec_parser_name.f (L.map sT) (i : Int) d wr false u = some (t.value, (i : Int) + 1, d, wr, false, u) := by
 have hi := lt_drop h
 unfold spec_parser_name.f
 rw [if_neg (by decide), kind_eq L i d wr false u hL (by omega), h]
 simp only [Option.bind_some]
 rw [if_pos (show hk (t :: r) = 15 from h2), w64 (x := (i : Int) + 1) (by omega) (by omega), w64 (by omega) (by omega), if_pos (by omega), if_pos (by rw [List.length_map]; omega), show (i : Int) + 1 - 1 = i by omega, rd_at h]
 rfl
end
def lk (a : S51) (b : Nd) : Prop := a.f0 = b.kind ∧ a.f1 = b.name ∧ a.f2 = b.alias ∧ a.f3 = b.text ∧ (b.kind = 15 → a.f4 = b.flag) ∧ a.f5 = b.size
inductive Lk : List S51 → NL → Prop
 | nil : Lk [] []
 | cons {a : S51} {b : Nd} {xs : List S51} {ys : NL} : lk a b → Lk xs ys → Lk (a :: xs) (b :: ys)
inductive LkL : List (List S51) → List NL → Prop
 | nil : LkL [] []
 | cons {a : List S51} {b : NL} {xs : List (List S51)} {ys : List NL} : Lk a b → LkL xs ys → LkL (a :: xs) (b :: ys)
theorem Lk.len {a : List S51} {b : NL} (h : Lk a b) : a.length = b.length := by
 induction h with
 | nil => rfl
 | cons _ _ ih => simp [ih]
theorem Lk.app {a c : List S51} {b d : NL} (h : Lk a b) (k : Lk c d) : Lk (a ++ c) (b ++ d) := by
 induction h with
 | nil => exact k
 | cons h1 _ ih => exact .cons h1 ih
theorem LkL.flat {a : List (List S51)} {b : List NL} (h : LkL a b) : Lk a.flatten b.flatten := by
 induction h with
 | nil => exact .nil
 | cons h1 _ ih => exact h1.app ih
theorem LkL.snoc {a : List (List S51)} {b : List NL} {c : List S51} {d : NL} (h : LkL a b) (k : Lk c d) : LkL (a ++ [c]) (b ++ [d]) := by
 induction h with
 | nil => exact .cons k .nil
 | cons h1 _ ih => exact .cons h1 ih
def mk54 (k : Int) (name alias text : ByteArray) (flag : Int) (kids : List (List S51)) : List S51 := ⟨k, name, alias, text, flag, ((kids.flatten.length + 1 : Nat) : Int)⟩ :: kids.flatten
theorem lk_nd {k : Int} {name alias text : ByteArray} {flag flag' : Int} {kids : List (List S51)} {xs : List NL} (h : LkL kids xs) (hf : k = 15 → flag = flag') : Lk (mk54 k name alias text flag kids) (nd k name alias text flag' xs) :=
 .cons ⟨rfl, rfl, rfl, rfl, hf, by simp only; rw [h.flat.len]⟩ h.flat
theorem made_l0 (n : S51) (kids : List (List S51)) (hk : kids.length ≤ 1000000) : ∀ (m k i : Nat) (pre : List S51), kids.length - i ≤ m → m < k → i ≤ kids.length → 1 + kids.flatten.length ≤ 1000000 → pre = (kids.take i).flatten →
  spec_Made.l0 k kids (n :: pre) (i : Int) = some (⟨n.f0, n.f1, n.f2, n.f3, n.f4, ((kids.flatten.length + 1 : Nat) : Int)⟩ :: kids.flatten) := by
 intro m
 induction m with
 | zero =>
  intro k i pre h1 h2 h3 hs h4
  obtain ⟨k, rfl⟩ : ∃ m, k = m + 1 := ⟨k - 1, by omega⟩
  have hi : i = kids.length := by omega
  rw [hi, List.take_length] at h4
  subst h4
  unfold spec_Made.l0
  rw [if_neg (by omega), if_pos (by simp only [List.length_cons]; omega)]
  rfl
 | succ m ih =>
  intro k i pre h1 h2 h3 hs h4
  obtain ⟨k, rfl⟩ : ∃ m, k = m + 1 := ⟨k - 1, by omega⟩
  by_cases hi : i = kids.length
  ·exact ih (k + 1) i pre (by omega) (by omega) h3 hs h4
  ·have hlt : i < kids.length := by omega
   have e : rd_L4 kids (i : Int) = kids[i] := by
    unfold rd_L4
    rw [List.getD_eq_getElem?_getD, Int.toNat_natCast, List.getElem?_eq_getElem hlt]
    rfl
   have e2 : (kids.take (i + 1)).flatten = pre ++ kids[i] := by
    rw [List.take_succ_eq_append_getElem hlt, List.flatten_append, h4]; simp
   have hle : (kids.take (i + 1)).flatten.length ≤ kids.flatten.length := by
    conv => rhs; rw [← List.take_append_drop (i + 1) kids, List.flatten_append, List.length_append]
    omega
   unfold spec_Made.l0
   rw [if_pos (by omega), if_pos (by omega), e]
   rw [e2, List.length_append] at hle
   rw [if_pos (by simp only [List.length_cons]; omega), w64 (by omega) (by omega)]
   exact ih k (i + 1) (pre ++ kids[i]) (by omega) (by omega) (by omega) hs e2.symm
theorem made_eq (k : Int) (name alias text : ByteArray) (flag s : Int) (kids : List (List S51)) (h1 : kids.length ≤ 1000000) (h2 : 1 + kids.flatten.length ≤ 1000000) : spec_Made.f (kids.length + 1) k name alias text flag s kids = some (mk54 k name alias text flag kids) :=
 made_l0 ⟨k, name, alias, text, flag, s⟩ kids h1 kids.length (kids.length + 1) 0 [] (by omega) (by omega) (by omega) h2 (by simp)
def VRes (cst : Bool) (L : List Tok) (i : Nat) (d : Int) (ns : List S51) (a dd : Int) (b u : Bool) : Prop :=
 ns.length + i ≤ L.length + 1 ∧ ((b = false ∧ u = false ∧ dd = d ∧ ∃ (j : Nat) (x : NL), a = j ∧ i < j ∧ j ≤ L.length ∧ ns.length + i ≤ j ∧ (∀ n, (L.drop i).length + 1 ≤ n → sVal cst n (L.drop i) = some (x, L.drop j)) ∧ Lk ns x)
  ∨ (b = true ∧ (u = true ∨ ∀ n, (L.drop i).length + 1 ≤ n → sVal cst n (L.drop i) = none)))
def VPost (cst : Bool) (L : List Tok) (i : Nat) (d : Int) (g : Nat) (w0 w : World) (e : Ending) (w' : World) : Prop :=
 ∃ (v : Value) (ns : List S51) (a dd wr : Int) (b u : Bool), e = .returned v ∧ Kd.R k51 51 w' w.heap.size (fun _ => True) v ns ∧ IsS45 w0 w' g (L.map sT) a dd wr b u ∧ Below w0.heap.size w0 w' ∧ KeepBut w w' g none ∧ VRes cst L i d ns a dd b u
theorem nil_row (w : World) (base : Nat) (ok : Nat → Prop) : Kd.R k51 51 w base ok (.slice none 0 0) [] := by
 exact Kd.R_nil k51 51 w base ok
theorem row_kept {w0 W W1 : World} {g : Nat} {L : List S49} {a d wr : Int} {b u : Bool} {base : Nat} {ok : Nat → Prop} {v : Value} {ns : List S51} (hi : IsS45 w0 W g L a d wr b u) (ho : Kd.R k51 51 W base ok v ns) (hk : KeepBut W W1 g none) : Kd.R k51 51 W1 base ok v ns :=
 Kd.R_mono (Kd.R_keep (IsS45.apart hi ho (by decide)) hk (fun _ h => h.2)) (fun _ h => h.1)
theorem val_bad (cst : Bool) (L : List S49) (a d wr : Int) (u : Bool) (g : Nat) (w0 w : World) (hI : IsS45 w0 w g L a d wr true u) (hB : Below w0.heap.size w0 w) :
  Calls Tryz.prog 14 #[.pointer (some ⟨g, 0, none⟩), .bool cst] w fun e w' => ∃ (v : Value) (d' : Int) (u' : Bool), (u = true → u' = true) ∧ e = .returned v ∧ Kd.R k51 51 w' w.heap.size (fun _ => True) v [] ∧ IsS45 w0 w' g L a d' wr true u' ∧ Below w0.heap.size w0 w' ∧ KeepBut w w' g none := by
 obtain ⟨d', u', hu, he⟩ := enter_bad d wr u a L
 have HE := aK (spec_parser_enter.calls g L a d wr true u false a d' wr true u' w0 w hI hB he)
 clear hI hB he
 go_enter Tryz.func14, Tryz.ntmps14
 go_wp2_with fail
 refine HE.out.mono ?_
 rintro e w1 ⟨rfl, hi, hb, hk⟩
 have HI := aK hi
 have HB := aK hb
 have HK := aK hk
 clear hi hb hk
 go_wp2_with fail
 go_ret
 exact ⟨_, d', u', hu, rfl, nil_row _ _ _, HI.out, HB.out, HK.out⟩
theorem value_any (cst : Bool) (L : List Tok) (i : Nat) (d : Int) (wr : Int) (g : Nat) (w0 w : World) (hL : L.length ≤ 2000) (hi : i ≤ L.length) (hd0 : 0 ≤ d) (hd1 : d ≤ 60)
  (H : d < 60 → ∀ (wx : World), IsS45 w0 wx g (L.map sT) i (d + 1) wr false false → Below w0.heap.size w0 wx → Calls Tryz.prog 34 #[.pointer (some ⟨g, 0, none⟩), .bool cst] wx (VPost cst L i (d + 1) g w0 wx))
  (hI : IsS45 w0 w g (L.map sT) i d wr false false) (hB : Below w0.heap.size w0 w) :
  Calls Tryz.prog 14 #[.pointer (some ⟨g, 0, none⟩), .bool cst] w (VPost cst L i d g w0 w) := by
 have he := enter_eq d wr false i (L.map sT) hd0 (by omega)
 by_cases h60 : d ≥ 60
 ·rw [if_pos h60] at he
  have HE := aK (spec_parser_enter.calls g _ _ _ _ _ _ _ _ _ _ _ _ w0 w hI hB he)
  clear hI hB he H
  go_enter Tryz.func14, Tryz.ntmps14
  go_wp2_with fail
  refine HE.out.mono ?_
  rintro e w1 ⟨rfl, hi1, hb, hk⟩
  have HI := aK hi1
  have HB := aK hb
  have HK := aK hk
  clear hi1 hb hk
  go_wp2_with fail
  go_ret
  exact ⟨_, [], _, _, _, _, _, rfl, nil_row _ _ _, HI.out, HB.out, HK.out, by simp only [List.length_nil]; omega, .inr ⟨rfl, .inl rfl⟩⟩
 ·rw [if_neg h60] at he
  have HE := aK (spec_parser_enter.calls g _ _ _ _ _ _ _ _ _ _ _ _ w0 w hI hB he)
  have HH := aK (H (by omega))
  have hs := hB.size
  clear hI hB he H
  go_enter Tryz.func14, Tryz.ntmps14
  go_wp2_with fail
  refine HE.out.mono ?_
  rintro e w1 ⟨rfl, hi1, hb, hk⟩
  have HK := aK hk
  have HH1 := aK (HH.out w1 hi1 hb)
  clear hi1 hb hk
  go_wp2_with fail
  refine HH1.out.mono ?_
  rintro e w2 ⟨v, ns, a, dd, wr2, b, u, rfl, hr, hi2, hb2, hk2, hv⟩
  have HLv := aK (spec_parser_leave.calls g _ a dd wr2 b u a (wrap64 (dd - 1)) wr2 b u w0 w2 hi2 hb2 rfl)
  have HI2 := aK hi2
  have HK2 := aK (HK.out.trans hk2 (.inl rfl))
  have HR := aK hr
  have HV := aK hv
  have HS := aK (show w.heap.size ≤ w1.heap.size from HK.out.1)
  clear hr hi2 hb2 hk2 hv
  go_wp2_with fail
  refine HLv.out.mono ?_
  rintro e w3 ⟨rfl, hi3, hb3, hk3⟩
  have HI := aK hi3
  have HB := aK hb3
  have HK3 := aK hk3
  clear hi3 hb3 hk3
  go_wp2_with fail
  go_ret
  refine ⟨v, ns, a, wrap64 (dd - 1), wr2, b, u, rfl, Kd.R_lower (row_kept HI2.out HR.out HK3.out) HS.out, HI.out, HB.out, HK2.out.trans HK3.out (.inl rfl), HV.out.1, ?_⟩
  rcases HV.out.2 with ⟨h1, h2, h3, h4⟩ | h
  ·exact .inl ⟨h1, h2, by rw [h3, show d + 1 - 1 = d by omega]; exact w64 (by omega) (by omega), h4⟩
  ·exact .inr h
theorem LkL.len {a : List (List S51)} {b : List NL} (h : LkL a b) : a.length = b.length := by
 induction h with
 | nil => rfl
 | cons _ _ ih => simp [ih]
def LInv (f : Nat → List Tok → Option (NL × List Tok)) (close : Int) (L : List Tok) (i : Nat) (d : Int) (K : List (List S51)) (a dd : Int) (b u : Bool) (kq : Nat) : Prop :=
 K.length + i ≤ L.length + 1 ∧ K.flatten.length + i ≤ L.length + 1 ∧
 ((b = false ∧ u = false ∧ dd = d ∧ ∃ (j : Nat) (X : List NL), a = j ∧ j ≤ L.length ∧ K.length + i ≤ j ∧ K.flatten.length + i ≤ j ∧ L.length - j < kq ∧ LkL K X
   ∧ ∀ n c, (L.drop i).length + 1 ≤ n → sMany (f n) close (c + X.length) (L.drop i) = (sMany (f n) close c (L.drop j)).map fun y => (X ++ y.1, y.2))
  ∨ (b = true ∧ (u = true ∨ ∀ n, (L.drop i).length + 1 ≤ n → sMany (f n) close n (L.drop i) = none)))
def KRes (f : Nat → List Tok → Option (NL × List Tok)) (L : List Tok) (i : Nat) (d : Int) (ns : List S51) (a dd : Int) (b u : Bool) : Prop :=
 ns.length + i ≤ L.length + 1 ∧ ((b = false ∧ u = false ∧ dd = d ∧ ∃ (j : Nat) (x : NL), a = j ∧ i < j ∧ j ≤ L.length ∧ ns.length + i ≤ j ∧ (∀ n, (L.drop i).length + 1 ≤ n → f n (L.drop i) = some (x, L.drop j)) ∧ Lk ns x)
  ∨ (b = true ∧ (u = true ∨ ∀ n, (L.drop i).length + 1 ≤ n → f n (L.drop i) = none)))
theorem VRes.kres {cst : Bool} {L : List Tok} {i : Nat} {d : Int} {ns : List S51} {a dd : Int} {b u : Bool} (h : VRes cst L i d ns a dd b u) : KRes (sVal cst) L i d ns a dd b u := h
theorem stok_hk {r : List Tok} {close : Int} (h : hk r ≠ close) : sTok close r = none := by
 cases r with
 | nil => rfl
 | cons t r => exact if_neg h
section
variable {f : Nat → List Tok → Option (NL × List Tok)} {close : Int} {L : List Tok} {i : Nat} {d : Int} {K : List (List S51)} {a dd : Int} {b u : Bool} {kq : Nat}
theorem LInv.begin_ (hi : i ≤ L.length) (hq : L.length - i < kq) : LInv f close L i d [] i d false false kq :=
 ⟨by simp only [List.length_nil]; omega, by simp only [List.flatten_nil, List.length_nil]; omega, .inl ⟨rfl, rfl, rfl, i, [], rfl, hi, by simp, by simp, hq, .nil, fun n c _ => by
  rw [List.length_nil, Nat.add_zero]
  cases sMany (f n) close c (L.drop i) with
  | none => rfl
  | some y => rfl⟩⟩
theorem drop_len_le {L : List Tok} {i j : Nat} (h : i ≤ j) : (L.drop j).length ≤ (L.drop i).length := by rw [List.length_drop, List.length_drop]; omega
theorem LInv.more {j : Nat} {ns : List S51} {a2 dd2 : Int} {b2 u2 : Bool} (hL : LInv f close L i d K (j : Int) d false false (kq + 1)) (hj : j ≤ L.length) (hk : hk (L.drop j) ≠ close) (h : KRes f L j d ns a2 dd2 b2 u2) (hij : K.length + i ≤ j) (hfj : K.flatten.length + i ≤ j) : LInv f close L i d (K ++ [ns]) a2 dd2 b2 u2 kq := by
 have hst := stok_hk hk
 have estep : ∀ n c, sMany (f n) close (c + 1) (L.drop j) = (f n (L.drop j)).bind fun x => (sMany (f n) close c x.2).map fun y => (x.1 :: y.1, y.2) := by
  intro n c
  conv => lhs; unfold sMany
  rw [hst]
 obtain ⟨_, _, hL⟩ := hL
 obtain ⟨hn1, h⟩ := h
 rcases hL with ⟨_, _, _, j', X, hj', h1, h2, h3, h4, h5, h6⟩ | ⟨h0, _⟩
 ·obtain rfl : j = j' := by omega
  rcases h with ⟨rfl, rfl, rfl, j2, x, rfl, g1, g2, g3, g4, g5⟩ | ⟨rfl, hu⟩
  ·refine ⟨by simp only [List.length_append, List.length_cons, List.length_nil]; omega, by simp only [List.flatten_append, List.flatten_cons, List.flatten_nil, List.length_append, List.append_nil]; omega, .inl ⟨rfl, rfl, rfl, j2, X ++ [x], rfl, g2, by simp only [List.length_append, List.length_cons, List.length_nil]; omega, by simp only [List.flatten_append, List.flatten_cons, List.flatten_nil, List.length_append, List.append_nil]; omega, by omega, h5.snoc g5, fun n c hn => ?_⟩⟩
   rw [List.length_append, List.length_cons, List.length_nil, show c + (X.length + (0 + 1)) = c + 1 + X.length by omega, h6 n (c + 1) hn, estep, g4 n (by have := drop_len_le (L := L) (i := i) (j := j) (by omega); omega)]
   simp only [Option.bind_some]
   cases sMany (f n) close c (L.drop j2) with
   | none => rfl
   | some y => simp
  ·refine ⟨by simp only [List.length_append, List.length_cons, List.length_nil]; omega, by simp only [List.flatten_append, List.flatten_cons, List.flatten_nil, List.length_append, List.append_nil]; omega, .inr ⟨rfl, hu.imp id fun hu n hn => ?_⟩⟩
   have hX := h5.len
   have hlen : (L.drop i).length = L.length - i := List.length_drop
   obtain ⟨c, hc⟩ : ∃ c, n = c + 1 + X.length := ⟨n - 1 - X.length, by omega⟩
   have e := h6 n (c + 1) hn
   rw [← hc] at e
   rw [e, estep, hu n (by have := drop_len_le (L := L) (i := i) (j := j) (by omega); omega)]
   rfl
 ·cases h0
theorem LInv.done {j : Nat} (hL : LInv f close L i d K (j : Int) dd false u kq) (hk : hk (L.drop j) = close) (hc : close ≠ 1) : u = false ∧ dd = d ∧ ∃ X : List NL, LkL K X ∧ j < L.length ∧ K.flatten.length + i ≤ j ∧ ∀ n, (L.drop i).length + 1 ≤ n → sMany (f n) close n (L.drop i) = some (X, L.drop (j + 1)) := by
 obtain ⟨_, _, h⟩ := hL
 rcases h with ⟨_, hu, hd, j', X, hj', h1, h2, h3, h4, h5, h6⟩ | ⟨h, _⟩
 ·obtain rfl : j = j' := by omega
  refine ⟨hu, hd, X, h5, ?_, h3, fun n hn => ?_⟩
  ·cases hr : L.drop j with
   | nil => rw [hr] at hk; exact absurd hk.symm hc
   | cons t r => exact lt_drop hr
  ·have hX : X.length + (L.drop j).length + 1 ≤ n := by
    have e1 := h5.len
    rw [List.length_drop] at hn ⊢
    omega
   have e := h6 n (n - X.length) hn
   rw [show n - X.length + X.length = n by omega] at e
   rw [e]
   obtain ⟨m, hm⟩ : ∃ m, n - X.length = m + 1 := ⟨n - X.length - 1, by omega⟩
   rw [hm]
   cases hr : L.drop j with
   | nil => rw [hr] at hk; exact absurd hk.symm hc
   | cons t r =>
    rw [hr] at hk
    have : sMany (f n) close (m + 1) (t :: r) = some ([], r) := by
     unfold sMany
     rw [show sTok close (t :: r) = some r from if_pos hk]
    rw [this, drop_next hr]
    simp
 ·cases h
end
section
variable {cst : Bool} {L : List Tok} {j : Nat} {d : Int} {ns : List S51} {a dd : Int} {b u : Bool}
theorem spair_none (k : Int) (f : List Tok → Option (NL × List Tok)) (h : hk (L.drop j) ≠ 15 ∨ hk (L.drop (j + 1)) ≠ 7) : sPair k f (L.drop j) = none := by
 unfold sPair
 cases hr : L.drop j with
 | nil => rfl
 | cons t r =>
  by_cases h1 : t.kind = 15
  ·rw [show sName (t :: r) = some (t.value, r) from if_pos h1]
   simp only [Option.bind_some]
   have h2 : hk r ≠ 7 := by
    rcases h with h | h
    ·rw [hr] at h; exact absurd h1 h
    ·rwa [drop_next hr] at h
   rw [stok_hk h2]
   rfl
  ·rw [show sName (t :: r) = none from if_neg h1]
   rfl
theorem spair_some (k : Int) (f : List Tok → Option (NL × List Tok)) {t1 t2 : Tok} {r : List Tok} (h : L.drop j = t1 :: t2 :: r) (h1 : t1.kind = 15) (h2 : t2.kind = 7) : sPair k f (L.drop j) = (f (L.drop (j + 2))).map fun y => (nd k t1.value emp emp 0 [y.1], y.2) := by
 have e2 : L.drop (j + 2) = r := drop_next (drop_next h)
 unfold sPair
 rw [h, e2, show sName (t1 :: t2 :: r) = some (t1.value, t2 :: r) from if_pos h1]
 simp only [Option.bind_some]
 rw [show sTok 7 (t2 :: r) = some r from if_pos h2]
 rfl
theorem pair_no (k : Int) (nm : ByteArray) (hj : j ≤ L.length) (h : hk (L.drop j) ≠ 15 ∨ hk (L.drop (j + 1)) ≠ 7) : KRes (fun n => sPair k (sVal cst n)) L j d (mk54 k nm emp emp 0 [[]]) a dd true u :=
 ⟨by simp only [mk54, List.flatten_cons, List.flatten_nil, List.length_cons, List.append_nil, List.length_nil]; omega, .inr ⟨rfl, .inr fun n _ => spair_none k _ h⟩⟩
theorem pair_yes (k : Int) (hk15 : k ≠ 15) {t1 t2 : Tok} {r : List Tok} (h : L.drop j = t1 :: t2 :: r) (h1 : t1.kind = 15) (h2 : t2.kind = 7) (hv : VRes cst L (j + 2) d ns a dd b u) : KRes (fun n => sPair k (sVal cst n)) L j d (mk54 k t1.value emp emp 0 [ns]) a dd b u := by
 obtain ⟨hn, hv⟩ := hv
 have hlen : (L.drop (j + 2)).length ≤ (L.drop j).length := drop_len_le (by omega)
 refine ⟨by simp only [mk54, List.flatten_cons, List.flatten_nil, List.length_cons, List.append_nil]; omega, ?_⟩
 rcases hv with ⟨rfl, rfl, rfl, j2, x, rfl, g1, g2, g3, g4, g5⟩ | ⟨rfl, hu⟩
 ·refine .inl ⟨rfl, rfl, rfl, j2, nd k t1.value emp emp 0 [x], rfl, by omega, g2, by simp only [mk54, List.flatten_cons, List.flatten_nil, List.length_cons, List.append_nil]; omega, fun n hn2 => ?_, lk_nd (.cons g5 .nil) (fun e => absurd e hk15)⟩
  show sPair k (sVal cst n) (L.drop j) = _
  rw [spair_some k _ h h1 h2, g4 n (by omega)]
  rfl
 ·refine .inr ⟨rfl, hu.imp id fun hu n hn2 => ?_⟩
  show sPair k (sVal cst n) (L.drop j) = _
  rw [spair_some k _ h h1 h2, hu n (by omega)]
  rfl
end
section
variable {cst : Bool} {L r : List Tok} {t : Tok} {i j : Nat} {X : List NL}
theorem obj_none (ht : L.drop i = t :: r) (hk : t.kind = 12) (h : ∀ n, (L.drop (i + 1)).length + 1 ≤ n → sMany (sPair 19 (sVal cst n)) 14 n (L.drop (i + 1)) = none) : ∀ n, (L.drop i).length + 1 ≤ n → sVal cst n (L.drop i) = none := by
 intro n hn
 rw [drop_next ht] at h
 rw [ht, List.length_cons] at hn
 rw [ht]
 obtain ⟨m, rfl⟩ : ∃ m, n = m + 1 := ⟨n - 1, by omega⟩
 unfold sVal
 rw [if_neg (by omega), if_pos hk, h m (by omega)]
 rfl
theorem obj_some (ht : L.drop i = t :: r) (hk : t.kind = 12) (h : ∀ n, (L.drop (i + 1)).length + 1 ≤ n → sMany (sPair 19 (sVal cst n)) 14 n (L.drop (i + 1)) = some (X, L.drop j)) : ∀ n, (L.drop i).length + 1 ≤ n → sVal cst n (L.drop i) = some (nd 18 emp emp emp 0 X, L.drop j) := by
 intro n hn
 rw [drop_next ht] at h
 rw [ht, List.length_cons] at hn
 conv => lhs; rw [ht]
 obtain ⟨m, rfl⟩ : ∃ m, n = m + 1 := ⟨n - 1, by omega⟩
 unfold sVal
 rw [if_neg (by omega), if_pos hk, h m (by omega)]
 rfl
end
def MPost (k : Int) (cst : Bool) (L : List Tok) (j : Nat) (d : Int) (nm : ByteArray) (g : Nat) (w0 W : World) (e : Ending) (w' : World) : Prop :=
 ∃ (v : Value) (ns : List S51) (a dd wr : Int) (b u : Bool), e = .returned v ∧ Kd.R k51 51 w' W.heap.size (fun _ => True) v ns ∧ IsS45 w0 w' g (L.map sT) a dd wr b u ∧ Below w0.heap.size w0 w' ∧ KeepBut W w' g none ∧ KRes (fun n => sPair k (sVal cst n)) L j d (mk54 k nm emp emp 0 [ns]) a dd b u
theorem mpost_bad (k : Int) (cst : Bool) (L : List Tok) (j : Nat) (d : Int) (nm : ByteArray) (g : Nat) (w0 W : World) (a d' wr : Int) (hj : j ≤ L.length) (h : hk (L.drop j) ≠ 15 ∨ hk (L.drop (j + 1)) ≠ 7)
  (hI : IsS45 w0 W g (L.map sT) a d' wr true false) (hB : Below w0.heap.size w0 W) :
  Calls Tryz.prog 14 #[.pointer (some ⟨g, 0, none⟩), .bool cst] W (MPost k cst L j d nm g w0 W) :=
 (val_bad cst (L.map sT) a d' wr false g w0 W hI hB).mono fun e w' ⟨v, d2, u', _, he, hr, hi, hb, hk⟩ => ⟨v, [], a, d2, wr, true, u', he, hr, hi, hb, hk, pair_no k nm hj h⟩
theorem member_plan (k : Int) (hk15 : k ≠ 15) (cst : Bool) (L : List Tok) (j : Nat) (d wr : Int) (g : Nat) (w0 : World) (hL : L.length ≤ 2000) (hj : j ≤ L.length)
  (HV : ∀ (j : Nat) (wr2 : Int) (wx : World), j ≤ L.length → IsS45 w0 wx g (L.map sT) j d wr2 false false → Below w0.heap.size w0 wx → Calls Tryz.prog 14 #[.pointer (some ⟨g, 0, none⟩), .bool cst] wx (VPost cst L j d g w0 wx)) :
  ∃ (nm : ByteArray) (a1 d1 wr1 : Int) (b1 u1 : Bool) (a2 d2 wr2 : Int) (b2 u2 : Bool), spec_parser_name.f (L.map sT) (j : Int) d wr false false = some (nm, a1, d1, wr1, b1, u1) ∧ spec_parser_must.f (L.map sT) a1 d1 wr1 b1 u1 7 = some (a2, d2, wr2, b2, u2) ∧
   ∀ W, IsS45 w0 W g (L.map sT) a2 d2 wr2 b2 u2 → Below w0.heap.size w0 W → Calls Tryz.prog 14 #[.pointer (some ⟨g, 0, none⟩), .bool cst] W (MPost k cst L j d nm g w0 W) := by
 by_cases hc15 : hk (L.drop j) = 15
 ·obtain ⟨t1, r1, hr1⟩ : ∃ t1 r1, L.drop j = t1 :: r1 := by
   cases h : L.drop j with
   | nil => rw [h] at hc15; cases hc15
   | cons a b => exact ⟨a, b, rfl⟩
  have hk1 : t1.kind = 15 := by rw [hr1] at hc15; exact hc15
  have hj1 := lt_drop hr1
  have hny := name_yes L j d wr false hL hr1 hk1
  have hmy := must_eq L (j + 1) d wr false hL (by omega) 7
  have ec : (j : Int) + 1 = ((j + 1 : Nat) : Int) := by omega
  rw [ec] at hny
  by_cases hc7 : hk (L.drop (j + 1)) = 7
  ·rw [if_pos hc7] at hmy
   have ec2 : ((j + 1 : Nat) : Int) + 1 = ((j + 2 : Nat) : Int) := by omega
   rw [ec2] at hmy
   obtain ⟨t2, r2, hr2⟩ : ∃ t2 r2, L.drop (j + 1) = t2 :: r2 := by
    cases h : L.drop (j + 1) with
    | nil => rw [h] at hc7; cases hc7
    | cons a b => exact ⟨a, b, rfl⟩
   have hk2 : t2.kind = 7 := by rw [hr2] at hc7; exact hc7
   have hj2 := lt_drop hr2
   have hrr : L.drop j = t1 :: t2 :: r2 := by rw [hr1, ← drop_next hr1, hr2]
   refine ⟨t1.value, _, d, wr, false, false, _, d, wr, false, false, hny, hmy, fun W hI hB => ?_⟩
   refine (HV (j + 2) wr W (by omega) hI hB).mono ?_
   rintro e w' ⟨v, ns, a, dd, wr', b, u, he, hr, hi, hb, hkb, hv⟩
   exact ⟨v, ns, a, dd, wr', b, u, he, hr, hi, hb, hkb, pair_yes k hk15 hrr hk1 hk2 hv⟩
  ·rw [if_neg hc7] at hmy
   exact ⟨t1.value, _, d, wr, false, false, _, d, _, true, false, hny, hmy, fun W hI hB => mpost_bad k cst L j d _ g w0 W _ _ _ hj (.inr hc7) hI hB⟩
 ·exact ⟨emp, _, d, _, true, false, _, d, _, true, false, name_no L j d wr false hL hj hc15, must_bad _ _ _ _ _ _, fun W hI hB => mpost_bad k cst L j d _ g w0 W _ _ _ hj (.inl hc15) hI hB⟩
theorem made_one (k : Int) (nm : ByteArray) (ns : List S51) (A : Option Addr) (c : Nat) (w : World) (ok : Nat → Prop) (hF : Kd.FK (Kd.slice 51 k51) w ok ns [.slice A ns.length c]) (h2 : 1 + ns.length ≤ 1000000) :
  Calls Tryz.prog 30 #[.agg #[.int .i64 k, .string nm, .string emp, .string emp, .int .i64 0, .int .i64 0], .slice (some ⟨w.heap.size, 0, none⟩) 1 1] (w.alloc (.cells #[.slice A ns.length c] 25)) fun e w' => ∃ v : Value, e = .returned v ∧ Kd.R k51 51 w' (w.alloc (.cells #[.slice A ns.length c] 25)).heap.size (fun _ => True) v (mk54 k nm emp emp 0 [ns]) ∧ Below (w.alloc (.cells #[.slice A ns.length c] 25)).heap.size (w.alloc (.cells #[.slice A ns.length c] 25)) w' := by
 have hh := heap_alloc_new w (.cells #[.slice A ns.length c] 25)
 have hC : Kd.C (Kd.slice 51 k51) (w.alloc (.cells #[.slice A ns.length c] 25)) (some ⟨w.heap.size, 0, none⟩) 1 [ns] := by
  refine ⟨rfl, by decide, fun _ => ⟨_, rfl, fun j p hj => ?_⟩⟩
  rcases j with _ | j
  ·obtain rfl : ns = p := by simpa using hj
   refine ⟨[.slice A ns.length c], rfl, hF _ (fun k hk hlt => Below.heap_alloc w _ k hlt), fun i u hu => ?_⟩
   rcases i with _ | i
   ·obtain rfl : Value.slice A ns.length c = u := by simpa using hu
    exact (blk_cell hh 0).trans rfl
   ·simp at hu
  ·simp at hj
 exact spec_Made.calls (1 + 1) k nm emp emp 0 0 _ 1 [ns] _ _ hC (Nat.le_refl 1) (made_eq k nm emp emp 0 0 [ns] (by simp) (by simp only [List.flatten_cons, List.flatten_nil, List.append_nil]; omega))
theorem made_member {k : Int} {nm : ByteArray} {f : Nat → List Tok → Option (NL × List Tok)} {L : List Tok} {j : Nat} {d a dd : Int} {b u : Bool} {ns : List S51} {A : Option Addr} {c : Nat} {w : World} {base : Nat} (hL : L.length ≤ 2000) (hr : Kd.R k51 51 w base (fun _ => True) (.slice A ns.length c) ns) (hv : KRes f L j d (mk54 k nm emp emp 0 [ns]) a dd b u) :
  Calls Tryz.prog 30 #[.agg #[.int .i64 k, .string nm, .string emp, .string emp, .int .i64 0, .int .i64 0], .slice (some ⟨w.heap.size, 0, none⟩) 1 1] (w.alloc (.cells #[.slice A ns.length c] 25)) fun e w' => ∃ v : Value, e = .returned v ∧ Kd.R k51 51 w' (w.alloc (.cells #[.slice A ns.length c] 25)).heap.size (fun _ => True) v (mk54 k nm emp emp 0 [ns]) ∧ Below (w.alloc (.cells #[.slice A ns.length c] 25)).heap.size (w.alloc (.cells #[.slice A ns.length c] 25)) w' :=
 made_one k nm ns A c w _ (Kd.FK_slice_mk (Kd.R_reads' hr).2.1 (Kd.R_F hr)) (by have := hv.1; simp only [mk54, List.flatten_cons, List.flatten_nil, List.append_nil, List.length_cons] at this; omega)
theorem app_member {L : List S49} {a dd wr : Int} {b u : Bool} {g : Nat} {w0 w7 w8 w9 : World} {o : Obj} {uv : Value} {K : List (List S51)} {ms : List S51} {A9 : Option Addr} {c9 : Nat}
  (hI : IsS45 w0 w8 g L a dd wr b u) (hB : Below w0.heap.size w0 w8) (hN : Kd.N (Kd.slice 51 k51) 25 w7 w0.heap.size (fun k => k ≠ g) uv K) (hk : KeepBut w7 w8 g none)
  (hb : Below (w8.alloc o).heap.size (w8.alloc o) w9) (hr : Kd.R k51 51 w9 (w8.alloc o).heap.size (fun _ => True) (.slice A9 ms.length c9) ms) :
  Kd.FK (Kd.slice 51 k51) w9 (fun k => k ≠ g ∧ some k ≠ uv.ownBlock) ms [.slice A9 ms.length c9] ∧ (∀ k, w9.heap.size ≤ k → k ≠ g) ∧ Kd.N (Kd.slice 51 k51) 25 w9 w0.heap.size (fun k => k ≠ g) uv K ∧ Below w0.heap.size w0 w9 ∧ w0.heap.size ≤ w9.heap.size ∧ IsS45 w0 w9 g L a dd wr b u ∧ KeepBut w7 w9 g none ∧ (∀ k, uv.ownBlock = some k → k < w8.heap.size) := by
 have hbw : Below w8.heap.size w8 w9 := (below_alloc (Below.refl _ _) o).trans (hb.mono (by simp))
 have hN8 := Kd.N_keep hN hk (fun _ h => h)
 have hN9 := Kd.N_below hN8 hbw
 have hI9 := hI.below hbw
 have hB9 := hB.trans (hbw.mono hB.size)
 have hlt := Kd.N_lt hN8
 have hg := hI.lt
 have hsz : (w8.alloc o).heap.size = w8.heap.size + 1 := by simp
 have HR := Kd.R_mono (ok' := fun k => k ≠ g ∧ some k ≠ uv.ownBlock) (Kd.R_bound hr) (fun k h => ⟨fun e => by have h2 := h.2.1; omega, fun e => by have h1 := hlt k e.symm; have h2 := h.2.1; omega⟩)
 exact ⟨Kd.FK_slice_mk (Kd.R_reads' HR).2.1 (Kd.R_F HR), fun k hk => IsS45.fresh hI9 k hk, hN9, hB9, hB9.size, hI9, hk.trans ⟨hbw.size, fun i hi _ _ => hbw.block i hi⟩ (.inl rfl), hlt⟩
end Go.Proofs.YtjoagdldbmlenaaGreatDoor.Rp
namespace Go.Proofs.YtjoagdldbmlenaaGreatDoor.Rel
open Go.Proofs.YtjoagdldbmlenaaGreatDoor.Mod Tree Go.Proofs.YtjoagdldbmlenaaGreatDoorW.PrintWords
def sArgs (n : Nat) (l : List Tok) : Option (List NL × List Tok) :=
 match sTok 4 l with
 | some r => (sMany (sPair 9 (sVal false n)) 5 n r).bind fun x => if x.1.length = 0 then none else some x
 | none => some ([], l)
def sDirs (n : Nat) : Nat → List Tok → Option (List NL × List Tok)
 | 0, _ => none
 | k + 1, l => match sTok 9 l with
  | some r => (sName r).bind fun x => (sArgs n x.2).bind fun a => (sDirs n k a.2).map fun y => (nd 10 x.1 emp emp 0 a.1 :: y.1, y.2)
  | none => some ([], l)
section
variable {s : ByteArray} {T : Nat → Tok → Prop} {B : Nat → Prop} {whole : Bool} {l : List Tok}
theorem agree_args (h : ∀ p t, T p t → t.start = p ∧ p < t.stop ∧ t.stop ≤ s.size) (n : Nat) : Agree s T B whole l (nArgs (lxL s l whole) n) (sArgs n) := by
 intro p r hR
 have skip : sTok 4 r = none → (∀ t, headL s whole r = some t → t.kind ≠ 4) → ((headL s whole r).bind (nArgs (lxL s l whole) n) = (sArgs n r).bind fun x => (headL s whole x.2).map fun t => (x.1, t)) ∧ ∀ x, sArgs n r = some x → ∃ q, Reach s T B whole l q x.2 := by
  intro h1 h2
  have e : sArgs n r = some ([], r) := by unfold sArgs; rw [h1]
  rw [e]
  refine ⟨?_, fun x hx => by rw [← Option.some.inj hx]; exact ⟨_, hR⟩⟩
  cases hh : headL s whole r with
  | none => simp only [Option.bind_none, Option.bind_some, hh, Option.map_none]
  | some t =>
   simp only [Option.bind_some, hh, Option.map_some]
   unfold nArgs
   rw [if_neg (h2 t hh)]
 cases r with
 | nil => exact skip rfl (fun t ht => by rw [head_nil ht]; omega)
 | cons t r =>
  by_cases hk : t.kind = 4
  ·show nArgs _ n t = _ ∧ _
   have e1 : sArgs n (t :: r) = (sMany (sPair 9 (sVal false n)) 5 n r).bind fun x => if x.1.length = 0 then none else some x := by
    unfold sArgs sTok
    simp only [if_pos hk]
   obtain ⟨a, b⟩ := agree_many h (agree_pair h (agree_val h false n) 9) 5 (by omega) n _ r (.next hR)
   have e2 : nArgs (lxL s l whole) n t = ((headL s whole r).bind (nMany (lxL s l whole) (nPair (lxL s l whole) 9 (nVal (lxL s l whole) false n)) 5 n)).bind fun x => if x.1.length = 0 then none else some x := by
    unfold nArgs nRev mTok
    rw [if_pos hk, if_pos hk, lx_head h hR]
    cases headL s whole r with
    | none => rfl
    | some u =>
     simp only [Option.bind_some, true_and]
     rfl
   rw [e2, a, e1]
   refine ⟨?_, fun x hx => ?_⟩
   ·cases sMany (sPair 9 (sVal false n)) 5 n r with
    | none => rfl
    | some x =>
     simp only [Option.bind_some]
     by_cases h0 : x.1.length = 0
     ·rw [if_pos h0]
      cases headL s whole x.2 with
      | none => rfl
      | some u => simp only [Option.map_some, Option.bind_some, Option.bind_none]; rw [if_pos h0]
     ·rw [if_neg h0]
      cases hx : headL s whole x.2 with
      | none => simp only [Option.map_none, Option.bind_none, Option.bind_some, hx]
      | some u => simp only [Option.map_some, Option.bind_some, hx]; rw [if_neg h0]
   ·obtain ⟨z, hz, hz2⟩ := Option.bind_eq_some_iff.1 hx
    by_cases h0 : z.1.length = 0
    ·rw [if_pos h0] at hz2; cases hz2
    ·rw [if_neg h0] at hz2
     rw [← Option.some.inj hz2]
     exact b z hz
  ·exact skip (by show (if t.kind = 4 then some r else none) = none; rw [if_neg hk]) (fun u hu => by rw [← Option.some.inj hu]; exact hk)
theorem agree_dirs (h : ∀ p t, T p t → t.start = p ∧ p < t.stop ∧ t.stop ≤ s.size) (n : Nat) : ∀ k, Agree s T B whole l (nDirs (lxL s l whole) n k) (sDirs n k) := by
 intro k
 induction k with
 | zero => exact fun p r hR => ⟨by cases headL s whole r <;> rfl, fun x hx => by cases hx⟩
 | succ k ih =>
  intro p r hR
  have skip : sTok 9 r = none → (∀ t, headL s whole r = some t → t.kind ≠ 9) → ((headL s whole r).bind (nDirs (lxL s l whole) n (k + 1)) = (sDirs n (k + 1) r).bind fun x => (headL s whole x.2).map fun t => (x.1, t)) ∧ ∀ x, sDirs n (k + 1) r = some x → ∃ q, Reach s T B whole l q x.2 := by
   intro h1 h2
   have e : sDirs n (k + 1) r = some ([], r) := by
    conv => lhs; unfold sDirs
    rw [h1]
   rw [e]
   refine ⟨?_, fun x hx => by rw [← Option.some.inj hx]; exact ⟨_, hR⟩⟩
   cases hh : headL s whole r with
   | none => simp only [Option.bind_none, Option.bind_some, hh, Option.map_none]
   | some t =>
    simp only [Option.bind_some, hh, Option.map_some]
    conv => lhs; unfold nDirs
    rw [if_neg (h2 t hh)]
  cases r with
  | nil => exact skip rfl (fun t ht => by rw [head_nil ht]; omega)
  | cons t r =>
   by_cases hk : t.kind = 9
   ·show nDirs _ n (k + 1) t = _ ∧ _
    have e1 : sDirs n (k + 1) (t :: r) = (sName r).bind fun x => (sArgs n x.2).bind fun a => (sDirs n k a.2).map fun y => (nd 10 x.1 emp emp 0 a.1 :: y.1, y.2) := by
     conv => lhs; unfold sDirs sTok
     simp only [if_pos hk]
    have e2 : nDirs (lxL s l whole) n (k + 1) t = ((headL s whole r).bind (nName (lxL s l whole))).bind fun x => ((nArgs (lxL s l whole) n x.2).bind fun a => (nDirs (lxL s l whole) n k a.2).map fun y => (nd 10 x.1 emp emp 0 a.1 :: y.1, y.2)) := by
     conv => lhs; unfold nDirs nDir mTok
     rw [if_pos hk, if_pos hk, lx_head h hR]
     cases headL s whole r with
     | none => rfl
     | some u =>
      simp only [Option.bind_some]
      cases nName (lxL s l whole) u with
      | none => rfl
      | some x =>
       simp only [Option.bind_some]
       cases nArgs (lxL s l whole) n x.2 <;> rfl
    obtain ⟨a1, b1⟩ := agree_name h _ r (.next hR)
    rw [e2, a1, e1]
    cases hn : sName r with
    | none => exact ⟨rfl, fun x hx => by cases hx⟩
    | some x =>
     obtain ⟨q, hq⟩ := b1 x hn
     obtain ⟨a2, b2⟩ := agree_args h n q x.2 hq
     simp only [Option.bind_some]
     have e3 : (((headL s whole x.2).map fun t => (x.1, t)).bind fun x => ((nArgs (lxL s l whole) n x.2).bind fun a => (nDirs (lxL s l whole) n k a.2).map fun y => (nd 10 x.1 emp emp 0 a.1 :: y.1, y.2))) = ((headL s whole x.2).bind (nArgs (lxL s l whole) n)).bind fun a => (nDirs (lxL s l whole) n k a.2).map fun y => (nd 10 x.1 emp emp 0 a.1 :: y.1, y.2) := by
      cases headL s whole x.2 <;> rfl
     rw [e3, a2]
     cases ha : sArgs n x.2 with
     | none => exact ⟨rfl, fun x hx => by cases hx⟩
     | some y =>
      obtain ⟨q2, hq2⟩ := b2 y ha
      obtain ⟨a3, b3⟩ := ih q2 y.2 hq2
      simp only [Option.bind_some]
      have e4 : (((headL s whole y.2).map fun t => (y.1, t)).bind fun a => (nDirs (lxL s l whole) n k a.2).map fun z => (nd 10 x.1 emp emp 0 a.1 :: z.1, z.2)) = ((headL s whole y.2).bind (nDirs (lxL s l whole) n k)).map fun z => (nd 10 x.1 emp emp 0 y.1 :: z.1, z.2) := by
       cases headL s whole y.2 <;> rfl
      rw [e4, a3]
      refine ⟨?_, fun z hz => ?_⟩
      ·cases sDirs n k y.2 with
       | none => rfl
       | some z => simp only [Option.bind_some, Option.map_some]; cases headL s whole z.2 <;> rfl
      ·obtain ⟨u, hu, rfl⟩ := Option.map_eq_some_iff.1 hz
       exact b3 u hu
   ·exact skip (by show (if t.kind = 9 then some r else none) = none; rw [if_neg hk]) (fun u hu => by rw [← Option.some.inj hu]; exact hk)
end
end Go.Proofs.YtjoagdldbmlenaaGreatDoor.Rel
namespace Go.Proofs.YtjoagdldbmlenaaGreatDoor.Rp
open Go.RowKit Go.Proofs.YtjoagdldbmlenaaGreatDoorW.PrintWords Go.Proofs.YtjoagdldbmlenaaGreatDoorW.PrintLast PFnReadDirectives Go.Proofs.YtjoagdldbmlenaaGreatDoor.Mod Tree Rel
theorem stok_yes {k : Int} {t : Tok} {r : List Tok} (h : t.kind = k) : sTok k (t :: r) = some r := if_pos h
theorem hk_cons {k : Int} {l : List Tok} (h : hk l = k) (h1 : k ≠ 1) : ∃ t r, l = t :: r ∧ t.kind = k := by
 cases l with
 | nil => exact absurd h.symm h1
 | cons t r => exact ⟨t, r, rfl, h⟩
def ARes (L : List Tok) (i : Nat) (d : Int) (ns : List S51) (a dd : Int) (b u : Bool) : Prop :=
 ns.length + i ≤ L.length + 1 ∧ ((b = false ∧ u = false ∧ dd = d ∧ ∃ (j : Nat) (X : List NL), a = j ∧ i ≤ j ∧ j ≤ L.length ∧ ns.length + i ≤ j ∧ (∀ n, (L.drop i).length + 1 ≤ n → sArgs n (L.drop i) = some (X, L.drop j)) ∧ Lk ns X.flatten)
  ∨ (b = true ∧ (u = true ∨ ∀ n, (L.drop i).length + 1 ≤ n → sArgs n (L.drop i) = none)))
section
variable {L : List Tok} {i j : Nat} {d a dd : Int} {b u : Bool}
theorem args_skip (hi : i ≤ L.length) (h : hk (L.drop i) ≠ 4) : ARes L i d [] i d false false :=
 ⟨by simp only [List.length_nil]; omega, .inl ⟨rfl, rfl, rfl, i, [], rfl, Nat.le_refl _, hi, by simp, fun n _ => by unfold sArgs; rw [stok_hk h], .nil⟩⟩
theorem args_open {t : Tok} {r : List Tok} (n : Nat) (h : L.drop i = t :: r) (hk4 : t.kind = 4) : sArgs n (L.drop i) = (sMany (sPair 9 (sVal false n)) 5 n (L.drop (i + 1))).bind fun x => if x.1.length = 0 then none else some x := by
 rw [drop_next h, h]
 unfold sArgs
 rw [stok_yes hk4]
theorem args_shut {t : Tok} {r : List Tok} (h : L.drop i = t :: r) (hk4 : t.kind = 4) (h5 : hk (L.drop (i + 1)) = 5) : ARes L i d [] a dd true u := by
 have := lt_drop h
 refine ⟨by simp only [List.length_nil]; omega, .inr ⟨rfl, .inr fun n hn => ?_⟩⟩
 rw [args_open n h hk4]
 obtain ⟨t2, r2, h2, hk2⟩ := hk_cons h5 (by decide)
 rw [h2]
 obtain ⟨m, rfl⟩ : ∃ m, n = m + 1 := ⟨n - 1, by omega⟩
 unfold sMany
 rw [stok_yes hk2]
 rfl
theorem args_bad {t : Tok} {r : List Tok} {K : List (List S51)} {kq : Nat} (h : L.drop i = t :: r) (hk4 : t.kind = 4) (hL : LInv (fun n => sPair 9 (sVal false n)) 5 L (i + 1) d K a dd true u kq) : ARes L i d K.flatten a dd true u := by
 obtain ⟨_, h1, h2⟩ := hL
 refine ⟨by omega, .inr ⟨rfl, ?_⟩⟩
 rcases h2 with ⟨h2, _⟩ | ⟨_, h2⟩
 ·cases h2
 ·refine h2.imp id fun h2 n hn => ?_
  rw [args_open n h hk4, h2 n (by have := drop_len_le (L := L) (i := i) (j := i + 1) (by omega); omega)]
  rfl
theorem args_done {t : Tok} {r : List Tok} {K : List (List S51)} {kq : Nat} (h : L.drop i = t :: r) (hk4 : t.kind = 4) (hL : LInv (fun n => sPair 9 (sVal false n)) 5 L (i + 1) d K (j : Int) dd false u kq) (h5 : hk (L.drop j) = 5) (hK : K ≠ []) (hij : i + 1 ≤ j) : ARes L i d K.flatten ((j : Int) + 1) dd false u := by
 obtain ⟨hu, hd, X, hX, hjl, hF, hs⟩ := hL.done h5 (by decide)
 refine ⟨by omega, .inl ⟨rfl, hu, hd, j + 1, X, by omega, by omega, by omega, by omega, fun n hn => ?_, hX.flat⟩⟩
 rw [args_open n h hk4, hs n (by have := drop_len_le (L := L) (i := i) (j := i + 1) (by omega); omega)]
 have hl : X.length ≠ 0 := by
  rw [← hX.len]
  exact fun e => hK (List.eq_nil_of_length_eq_zero e)
 simp only [Option.bind_some]
 rw [if_neg hl]
def sDir (n : Nat) (l : List Tok) : Option (NL × List Tok) := (sTok 9 l).bind fun r => (sName r).bind fun x => (sArgs n x.2).map fun a => (nd 10 x.1 emp emp 0 a.1, a.2)
theorem sDirs_yes {n k : Nat} {l : List Tok} (h : hk l = 9) : sDirs n (k + 1) l = (sDir n l).bind fun x => (sDirs n k x.2).map fun y => (x.1 :: y.1, y.2) := by
 obtain ⟨t, r, rfl, ht⟩ := hk_cons h (by decide)
 conv => lhs; unfold sDirs
 unfold sDir
 rw [stok_yes ht]
 simp only [Option.bind_some]
 cases sName r with
 | none => rfl
 | some x =>
  simp only [Option.bind_some]
  cases sArgs n x.2 with
  | none => rfl
  | some a => rfl
theorem sDirs_no {n k : Nat} {l : List Tok} (h : hk l ≠ 9) : sDirs n (k + 1) l = some ([], l) := by
 unfold sDirs
 rw [stok_hk h]
theorem nd_one (k : Int) (nm al tx : ByteArray) (fl : Int) (X : List NL) : nd k nm al tx fl X = nd k nm al tx fl [X.flatten] := by
 unfold nd
 simp
theorem dir_no {t : Tok} {r : List Tok} (h : L.drop j = t :: r) (hk9 : t.kind = 9) (hn : hk (L.drop (j + 1)) ≠ 15) : KRes sDir L j d (mk54 10 emp emp emp 0 [[]]) a dd true u := by
 have hj := lt_drop h
 refine ⟨by simp only [mk54, List.flatten_cons, List.flatten_nil, List.length_cons, List.append_nil, List.length_nil]; omega, .inr ⟨rfl, .inr fun n _ => ?_⟩⟩
 unfold sDir
 rw [h, stok_yes hk9, ← drop_next h]
 simp only [Option.bind_some]
 have e : sName (L.drop (j + 1)) = none := by
  cases hr : L.drop (j + 1) with
  | nil => rfl
  | cons t2 r2 => rw [hr] at hn; exact if_neg hn
 rw [e]
 rfl
theorem dir_yes {t t2 : Tok} {r : List Tok} {ns : List S51} (h : L.drop j = t :: t2 :: r) (hk9 : t.kind = 9) (hk2 : t2.kind = 15) (hv : ARes L (j + 2) d ns a dd b u) : KRes sDir L j d (mk54 10 t2.value emp emp 0 [ns]) a dd b u := by
 obtain ⟨hn, hv⟩ := hv
 have hlen : (L.drop (j + 2)).length ≤ (L.drop j).length := drop_len_le (by omega)
 have e2 : L.drop (j + 2) = r := drop_next (drop_next h)
 have hj := rest_len (drop_next h)
 have es : ∀ n, sDir n (L.drop j) = (sArgs n (L.drop (j + 2))).map fun a => (nd 10 t2.value emp emp 0 a.1, a.2) := by
  intro n
  unfold sDir
  rw [h, stok_yes hk9, e2]
  simp only [Option.bind_some]
  rw [show sName (t2 :: r) = some (t2.value, r) from if_pos hk2]
  rfl
 refine ⟨by simp only [mk54, List.flatten_cons, List.flatten_nil, List.length_cons, List.append_nil]; omega, ?_⟩
 rcases hv with ⟨rfl, rfl, rfl, j2, X, rfl, g1, g2, g3, g4, g5⟩ | ⟨rfl, hu⟩
 ·refine .inl ⟨rfl, rfl, rfl, j2, nd 10 t2.value emp emp 0 X, rfl, by omega, g2, by simp only [mk54, List.flatten_cons, List.flatten_nil, List.length_cons, List.append_nil]; omega, fun n hn2 => ?_, ?_⟩
  ·rw [es, g4 n (by omega)]
   rfl
  ·rw [nd_one]
   exact lk_nd (.cons g5 .nil) (fun _ => rfl)
 ·refine .inr ⟨rfl, hu.imp id fun hu n hn2 => ?_⟩
  rw [es, hu n (by omega)]
  rfl
end
def DInv (L : List Tok) (i : Nat) (d : Int) (K : List (List S51)) (a dd : Int) (b u : Bool) (kq : Nat) : Prop :=
 K.length + i ≤ L.length + 1 ∧ K.flatten.length + i ≤ L.length + 1 ∧
 ((b = false ∧ u = false ∧ dd = d ∧ ∃ (j : Nat) (X : List NL), a = j ∧ j ≤ L.length ∧ K.length + i ≤ j ∧ K.flatten.length + i ≤ j ∧ L.length - j < kq ∧ LkL K X
   ∧ ∀ n c, (L.drop i).length + 1 ≤ n → sDirs n (c + X.length) (L.drop i) = (sDirs n c (L.drop j)).map fun y => (X ++ y.1, y.2))
  ∨ (b = true ∧ (u = true ∨ ∀ n c, (L.drop i).length + 1 ≤ n → (L.drop i).length + 1 ≤ c → sDirs n c (L.drop i) = none)))
section
variable {L : List Tok} {i : Nat} {d : Int} {K : List (List S51)} {a dd : Int} {b u : Bool} {kq : Nat}
theorem DInv.begin_ (hi : i ≤ L.length) (hq : L.length - i < kq) : DInv L i d [] i d false false kq :=
 ⟨by simp only [List.length_nil]; omega, by simp only [List.flatten_nil, List.length_nil]; omega, .inl ⟨rfl, rfl, rfl, i, [], rfl, hi, by simp, by simp, hq, .nil, fun n c _ => by
  rw [List.length_nil, Nat.add_zero]
  cases sDirs n c (L.drop i) with
  | none => rfl
  | some y => rfl⟩⟩
theorem DInv.more {j : Nat} {ns : List S51} {a2 dd2 : Int} {b2 u2 : Bool} (hL : DInv L i d K (j : Int) d false false (kq + 1)) (hk : hk (L.drop j) = 9) (h : KRes sDir L j d ns a2 dd2 b2 u2) (hij : K.length + i ≤ j) (hfj : K.flatten.length + i ≤ j) : DInv L i d (K ++ [ns]) a2 dd2 b2 u2 kq := by
 obtain ⟨_, _, hL⟩ := hL
 obtain ⟨hn1, h⟩ := h
 rcases hL with ⟨_, _, _, j', X, hj', h1, h2, h3, h4, h5, h6⟩ | ⟨h0, _⟩
 ·obtain rfl : j = j' := by omega
  rcases h with ⟨rfl, rfl, rfl, j2, x, rfl, g1, g2, g3, g4, g5⟩ | ⟨rfl, hu⟩
  ·refine ⟨by simp only [List.length_append, List.length_cons, List.length_nil]; omega, by simp only [List.flatten_append, List.flatten_cons, List.flatten_nil, List.length_append, List.append_nil]; omega, .inl ⟨rfl, rfl, rfl, j2, X ++ [x], rfl, g2, by simp only [List.length_append, List.length_cons, List.length_nil]; omega, by simp only [List.flatten_append, List.flatten_cons, List.flatten_nil, List.length_append, List.append_nil]; omega, by omega, h5.snoc g5, fun n c hn => ?_⟩⟩
   rw [List.length_append, List.length_cons, List.length_nil, show c + (X.length + (0 + 1)) = c + 1 + X.length by omega, h6 n (c + 1) hn, sDirs_yes hk, g4 n (by have := drop_len_le (L := L) (i := i) (j := j) (by omega); omega)]
   simp only [Option.bind_some]
   cases sDirs n c (L.drop j2) with
   | none => rfl
   | some y => simp
  ·refine ⟨by simp only [List.length_append, List.length_cons, List.length_nil]; omega, by simp only [List.flatten_append, List.flatten_cons, List.flatten_nil, List.length_append, List.append_nil]; omega, .inr ⟨rfl, hu.imp id fun hu n c hn hc => ?_⟩⟩
   have hX := h5.len
   have hlen : (L.drop i).length = L.length - i := List.length_drop
   obtain ⟨c, hc'⟩ : ∃ c', c = c' + 1 + X.length := ⟨c - 1 - X.length, by omega⟩
   have e := h6 n (c + 1) hn
   rw [← hc'] at e
   rw [e, sDirs_yes hk, hu n (by have := drop_len_le (L := L) (i := i) (j := j) (by omega); omega)]
   rfl
 ·cases h0
theorem DInv.done {j : Nat} (hL : DInv L i d K (j : Int) dd false u kq) (hk : hk (L.drop j) ≠ 9) : u = false ∧ dd = d ∧ ∃ X : List NL, LkL K X ∧ j ≤ L.length ∧ K.flatten.length + i ≤ j ∧ ∀ n c, (L.drop i).length + 1 ≤ n → (L.drop i).length + 1 ≤ c → sDirs n c (L.drop i) = some (X, L.drop j) := by
 obtain ⟨_, _, h⟩ := hL
 rcases h with ⟨_, hu, hd, j', X, hj', h1, h2, h3, h4, h5, h6⟩ | ⟨h, _⟩
 ·obtain rfl : j = j' := by omega
  refine ⟨hu, hd, X, h5, h1, h3, fun n c hn hc => ?_⟩
  have hX := h5.len
  have hlen : (L.drop i).length = L.length - i := List.length_drop
  obtain ⟨c, hc'⟩ : ∃ c', c = c' + 1 + X.length := ⟨c - 1 - X.length, by omega⟩
  have e := h6 n (c + 1) hn
  rw [← hc'] at e
  rw [e, sDirs_no hk]
  simp
 ·cases h
end
end Go.Proofs.YtjoagdldbmlenaaGreatDoor.Rp
