import Derived.Test.YtjoagdldbmlenaaGreatDoorVD2
import Derived.Laws.AppendOwn
import Derived.Deep.LoopGhost
import Derived.ArgAppend
set_option maxRecDepth 100000
set_option maxHeartbeats 8000000
set_option linter.unusedVariables false
set_option linter.unusedSimpArgs false
namespace Go.Proofs.YtjoagdldbmlenaaGreatDoor.Par
open Go.RowKit Go.Proofs.YtjoagdldbmlenaaGreatDoorW.PrintWords Keep Go.Proofs.YtjoagdldbmlenaaGreatDoor.Mod Sim Four Step Env Err Lx Ast New Tree
theorem infoI : (Tryz.prog.info? 20).map (fun i => (i.zero, i.size, i.bytes)) = some (some .nilIface, 1, 16) := by kernel_rfl
def nu (s : ByteArray) (t : Tok) : Nat := if t.kind = 1 then 0 else s.size - t.stop + 1
structure Item (E : At) (L : Nat) (F : Tok → Option (NL × Tok)) (G : NL → World → Value → Prop) (f : FuncId) (n : Nat) : Prop where
 yes : ∀ W t y t', PS E W t → L ≤ W.heap.size → nu E.s t < n → F t = some (y, t') → Calls Tryz.prog f #[.pointer (some ⟨E.pb, 0, none⟩)] W fun e w' => ∃ ty x, e = .returned (.tuple #[.iface ty x, .nilIface]) ∧ G y w' (.iface ty x) ∧ Keeps E.pb E.qb W w' ∧ PS E w' t'
 no : ∀ W t, PS E W t → L ≤ W.heap.size → nu E.s t < n → F t = none → Calls Tryz.prog f #[.pointer (some ⟨E.pb, 0, none⟩)] W fun e w' => ∃ v, PErr E W v e w'
 prog : ∀ t y t', t.stop ≤ E.s.size → F t = some (y, t') → nu E.s t' < nu E.s t
theorem lx_nu {lx : Lx} {s : ByteArray} {t t' : Tok} (hx : WtL.LxOk lx s) (hle : t.stop ≤ s.size) (hk : t.kind ≠ 1) (h : lx t.stop = some t') : nu s t' < nu s t := by
 unfold nu
 rcases hx _ _ hle h with ⟨h1, h2⟩ | ⟨h1, h2, h3⟩
 ·rw [if_pos h1, if_neg hk]; omega
 ·rw [if_neg h1, if_neg hk]; omega
def Both (P : NL → Value → Prop) : List NL → List Value → Prop
 | [], [] => True
 | y :: ys, v :: vs => P y v ∧ Both P ys vs
 | _, _ => False
theorem both_len {P : NL → Value → Prop} : ∀ {ys vs}, Both P ys vs → vs.length = ys.length
 | [], [], _ => rfl
 | _ :: _, _ :: _, h => by rw [List.length_cons, List.length_cons, both_len h.2]
 | [], _ :: _, h => h.elim
 | _ :: _, [], h => h.elim
theorem both_mono {P Q : NL → Value → Prop} (hPQ : ∀ y v, P y v → Q y v) : ∀ {ys vs}, Both P ys vs → Both Q ys vs
 | [], [], _ => trivial
 | _ :: _, _ :: _, h => ⟨hPQ _ _ h.1, both_mono hPQ h.2⟩
 | [], _ :: _, h => h.elim
 | _ :: _, [], h => h.elim
theorem both_snoc {P : NL → Value → Prop} {y : NL} {v : Value} (hp : P y v) : ∀ {ys vs}, Both P ys vs → Both P (ys ++ [y]) (vs ++ [v])
 | [], [], _ => ⟨hp, trivial⟩
 | _ :: _, _ :: _, h => ⟨h.1, both_snoc hp h.2⟩
 | [], _ :: _, h => h.elim
 | _ :: _, [], h => h.elim
theorem both_get {P : NL → Value → Prop} : ∀ {ys vs}, Both P ys vs → ∀ (i : Nat) (y : NL), ys[i]? = some y → ∃ v, vs[i]? = some v ∧ P y v
 | [], [], _ => fun i y h => by simp at h
 | y0 :: ys, v0 :: vs, h => fun i y hy => by
  cases i with
  | zero =>
   obtain rfl : y0 = y := by simpa using hy
   exact ⟨v0, by simp, h.1⟩
  | succ i => 
   obtain ⟨v, hv, hp⟩ := both_get h.2 i y (by simpa using hy)
   exact ⟨v, by simpa using hv, hp⟩
 | [], _ :: _, h => h.elim
 | _ :: _, [], h => h.elim
structure RevInv (E : At) (L : Nat) (F : Tok → Option (NL × Tok)) (G : NL → World → Value → Prop) (c : Int) (w : World) (base nT : Nat) (st : Int) (goal : Option (List NL × Tok)) (N k i : Nat) (ys : List NL) (tk : Tok) (v : Value) (wr : World) : Prop where
 ps : PS E wr tk
 fuel : nu E.s tk < k
 row : ∃ xs, wr.ownsRow base 20 1 v i xs ∧ Both (fun y x => (∃ ty u, x = .iface ty u) ∧ G y wr x) ys xs
 len : ys.length = i
 goal : (nMany (E.lx) F c k tk).map (fun x => (ys ++ x.1, x.2)) = goal
 few : i + k ≤ N
 keep : Keeps E.pb E.qb w wr
 size : base ≤ wr.heap.size
 tok : wr.cell? ⟨nT, 1, none⟩ = some (.int .i64 st)
def IRow (G : NL → World → Value → Prop) (ys : List NL) (w : World) (v : Value) : Prop := ∃ A n c, v = .slice A n c ∧ (n ≤ c ∧ n ≤ 200000) ∧ ys.length = n ∧ (n = 0 ∨ ∃ b, A = some ⟨b, 0, none⟩ ∧ ∀ (i : Nat) (y : NL), ys[i]? = some y → ∃ ty u, w.cell? ⟨b, i, none⟩ = some (.iface ty u) ∧ G y w (.iface ty u))
theorem irow_of {w : World} {base n : Nat} {v : Value} {xs : List Value} {ys : List NL} {G : NL → World → Value → Prop} (h : w.ownsRow base 20 1 v n xs) (hx : Both (fun y x => (∃ ty u, x = .iface ty u) ∧ G y w x) ys xs) (hn : n ≤ 200000) : IRow G ys w v := by
 obtain ⟨hl, h⟩ := h
 have hly := both_len hx
 rcases h with ⟨rfl, rfl⟩ | ⟨g, cap, cur, rfl, hb, hh, hc, hm, hcs, htk⟩
 ·exact ⟨none, 0, 0, rfl, ⟨Nat.le_refl _, Nat.zero_le _⟩, by omega, .inl rfl⟩
 ·refine ⟨_, n, cap, rfl, ⟨hc, hn⟩, by omega, .inr ⟨g, rfl, fun i y hi => ?_⟩⟩
  obtain ⟨x, hxi, ⟨ty, u, e⟩, hg⟩ := both_get hx i y hi
  refine ⟨ty, u, ?_, by rw [← e]; exact hg⟩
  rw [cell_of_row w g i cur _ (0, 0) hh, ← e]
  have h3 : (cur.toList.take (n * 1))[i]? = some x := by rw [htk]; exact hxi
  rw [List.getElem?_take] at h3
  split at h3
  ·rw [← h3]; simp
  ·cases h3
section
variable {E : At} {L : Nat} {F : Tok → Option (NL × Tok)} {G : NL → World → Value → Prop} {c : Int} {w wr w2 w3 : World} {base nT N k i : Nat} {st : Int} {goal : Option (List NL × Tok)} {ys : List NL} {y : NL} {tk t2 : Tok} {v v' : Value} {xs : List Value}
theorem rev_step (hG : ∀ y, Stable L (G y)) (hF : ∀ t y t', t.stop ≤ E.s.size → F t = some (y, t') → nu E.s t' < nu E.s t) (h : RevInv E L F G c w base nT st goal N (k + 1) i ys tk v wr) (hkc : tk.kind ≠ c) (hf : F tk = some (y, t2)) {t0 : Tok} (h0 : PS E w t0) (hwb : w.heap.size ≤ base) (hnT : nT < base ∧ nT ≠ E.pb ∧ nT ≠ E.qb) (hk2 : Keeps E.pb E.qb wr w2) (hp2 : PS E w2 t2) {ty : TypeId} {x : Value} (hx : G y w2 (.iface ty x)) {o : Obj} (hown : w2.ownsRow base 20 1 v i xs) (hxs : Both (fun y x => (∃ ty u, x = .iface ty u) ∧ G y w2 x) ys xs)
  (hown' : w3.ownsRow base 20 1 v' (i + 1) (xs ++ [.iface ty x])) (hgrow : (w2.alloc o).grownBy w3 v.ownBlock) :
  RevInv E L F G c w base nT st goal N k (i + 1) (ys ++ [y]) t2 v' w3 := by
 have hsz2 : base ≤ w2.heap.size := Nat.le_trans h.size hk2.size
 have hpl := ps_lt h.ps
 have hrow : ∀ g, v.ownBlock = some g → base ≤ g ∧ ∃ cs fr, (w2.alloc o).heap[g]? = some (.cells cs 20 fr) := by
  intro g hg
  rcases hown.2 with ⟨rfl, _⟩ | ⟨g', cap, cur, rfl, hb, hh, _⟩
  ·cases hg
  ·have : g' = g := by simpa [Value.ownBlock] using hg
   subst this
   have hlt : g' < w2.heap.size := by
    rcases Nat.lt_or_ge g' w2.heap.size with h1 | h1
    ·exact h1
    ·rw [Array.getElem?_eq_none h1] at hh; cases hh
   exact ⟨hb, cur, (0, 0), (Below.heap_alloc w2 o g' hlt).trans hh⟩
 have hu : Up L w2 w3 := (Up.of_below ((Below.refl _ _).alloc (Nat.le_refl _) o)).trans (Up.of_grown hgrow fun g hg => (hrow g hg).2)
 have hb3 : Below base w2 w3 := ((Below.refl base w2).alloc hsz2 o).grown hgrow (by simp; omega) (fun g hg => (hrow g hg).1)
 have hbw : Below w.heap.size w2 w3 := hb3.mono hwb
 refine ⟨ps_end h0 hp2 hbw, ?_, ⟨_, hown', ?_⟩, by rw [List.length_append, h.len]; rfl, ?_, by have := h.few; omega, keeps_new (h.keep.trans hk2) hbw, Nat.le_trans hsz2 hb3.size, ?_⟩
 ·have h1 := hF tk y t2 h.ps.le hf
  have h2 := h.fuel
  omega
 ·exact both_snoc ⟨⟨_, _, rfl⟩, hG _ _ _ _ hu hx⟩ (both_mono (fun y v hh => ⟨hh.1, hG _ _ _ _ hu hh.2⟩) hxs)
 ·have h1 := h.goal
  unfold nMany at h1
  rw [if_neg hkc, hf] at h1
  rw [← h1]
  simp only [Option.bind_some, Option.map_map]
  congr 1
  funext z
  simp
 ·exact (hb3.cell (p := ⟨nT, 1, none⟩) hnT.1).trans (hk2.cell h.tok hnT.2.1 hnT.2.2)
theorem row_keep (hG : ∀ y, Stable L (G y)) (hL : E.pb < L ∧ E.qb < L) (hbs : E.pb < base ∧ E.qb < base) (hk : Keeps E.pb E.qb wr w2) (h : wr.ownsRow base 20 1 v i xs) (hx : Both (fun y x => (∃ ty u, x = .iface ty u) ∧ G y wr x) ys xs) :
  w2.ownsRow base 20 1 v i xs ∧ Both (fun y x => (∃ ty u, x = .iface ty u) ∧ G y w2 x) ys xs := by
 refine ⟨⟨h.1, ?_⟩, both_mono (fun y v hh => ⟨hh.1, hG _ _ _ _ (Up.of_keeps hk hL.1 hL.2) hh.2⟩) hx⟩
 rcases h.2 with h2 | ⟨g, cap, cur, hv, hb, hh, r⟩
 ·exact .inl h2
 ·have hlt : g < wr.heap.size := by
   rcases Nat.lt_or_ge g wr.heap.size with h1 | h1
   ·exact h1
   ·rw [Array.getElem?_eq_none h1] at hh; cases hh
  exact .inr ⟨g, cap, cur, hv, hb, (hk.block g hlt (by omega) (by omega)).trans hh, r⟩
end
def RevRes (E : At) (G : NL → World → Value → Prop) (r : Option (List NL × Tok)) (w : World) (e : Ending) (w' : World) : Prop :=
 (∃ ys t' v, r = some (ys, t') ∧ e = .returned (.tuple #[v, .nilIface]) ∧ IRow G ys w' v ∧ Keeps E.pb E.qb w w' ∧ PS E w' t') ∨ (r = none ∧ ∃ v, PErr E w v e w')
theorem rev_fn (f : Nat) (hf : f = 128 ∨ f = 129 ∨ f = 79) (E : At) (w : World) (t : Tok) (o c : Int) (must : Bool) (n L : Nat) (F : Tok → Option (NL × Tok)) (G : NL → World → Value → Prop) (hP : PS E w t) (hL : L ≤ w.heap.size) (hEL : E.pb < L ∧ E.qb < L) (hI : Item E L F G f n) (hG : ∀ y, Stable L (G y)) (ho : o ≠ 1) (hn : nu E.s t ≤ n) (hN : n ≤ 200000) :
  Calls Tryz.prog 78 #[.pointer (some ⟨E.pb, 0, none⟩), .int .i64 o, .func (.func f) #[] #[], .int .i64 c, .bool must] w fun e w' => RevRes E G (nRev (E.lx) F o c must n t) w e w' := by
 rcases hf with rfl | rfl | rfl
 all_goals
  obtain ⟨i0, hi, hz0, hz1, hz2⟩ := info_parts infoI
  cases h1 : mTok (E.lx) o t with
  | none =>
   have HX := aK (expect_none E w t o hP h1)
   have HR := aK (show nRev (E.lx) F o c must n t = none by unfold nRev; rw [h1]; rfl)
   clear hP hI hG h1
   go_enter Tryz.func78, Tryz.ntmps78
   go_wp2_with fail
   refine HX.out.mono ?_
   rintro e w2 ⟨⟨g, rfl⟩, hk⟩
   have HK := aK hk
   clear hk
   go_wp2_with fail
   go_ret2
   exact .inr ⟨HR.out, _, ⟨g, rfl⟩, HK.out.alloc _⟩
  | some t1 =>
   have HX := aK (expect_some E w t t1 o hP h1)
   have hR : nRev (E.lx) F o c must n t = (nMany (E.lx) F c n t1).bind fun x => if must = true ∧ x.1.length = 0 then none else some x := by unfold nRev; rw [h1]; rfl
   have HR := aK hR
   have hnu : nu E.s t1 < nu E.s t := by
    unfold mTok at h1
    by_cases hk : t.kind = o
    ·rw [if_pos hk] at h1; exact lx_nu hP.src.ok.prog hP.le (by rw [hk]; exact ho) h1
    ·rw [if_neg hk] at h1; cases h1
   have HP := aK hP
   have HI := aK hI
   have HG := aK hG
   clear hP hI hG h1 hR
   go_enter Tryz.func78, Tryz.ntmps78
   go_wp2_with fail
   refine HX.out.mono ?_
   rintro e w2 ⟨rfl, hk, hp⟩
   have hsz2 := hk.size
   obtain ⟨r1, r3⟩ := token_cells (w2 := w2) t
   have HS := aK (show RevInv E L F G c w (w2.heap.size + 1) w2.heap.size t.start (nMany (E.lx) F c n t1) n n 0 [] t1 (.slice none 0 0) (w2.alloc (.cells #[.int .i64 t.kind, .int .i64 t.start, .int .i64 t.stop, .string t.value] 59)) from
    ⟨hp.below (below_alloc (Below.refl _ _) _), by omega, ⟨[], World.ownsRow_nil _ _ _ _, trivial⟩, rfl, by simp, by omega, hk.alloc _, by simp, r1⟩)
   clear hk hp r1 r3
   go_wp2_with fail
   go_loopg [14] n (fun k v14 wr => ∃ i ys tk, Aside0 (RevInv E L F G c w (w2.heap.size + 1) w2.heap.size t.start (nMany (E.lx) F c n t1) n k i ys tk v14 wr))
   case atStart => exact ⟨0, [], t1, HS⟩
   case round =>
    obtain ⟨i, ys, tk, HV⟩ := hrel
    obtain ⟨k, rfl⟩ : ∃ k, gk = k + 1 := ⟨gk - 1, by have := HV.out.fuel; omega⟩
    have hnT : w2.heap.size ≠ E.pb ∧ w2.heap.size ≠ E.qb := by have := ps_lt HP.out; omega
    have hvs : (u14 = .slice none 0 0 ∧ i = 0) ∨ ∃ g cap, u14 = .slice (some ⟨g, 0, none⟩) i cap := by
     obtain ⟨xs, h2, _⟩ := HV.out.row
     rcases h2.2 with h3 | ⟨g, cap, cur, h3, _⟩
     ·exact .inl h3
     ·exact .inr ⟨g, cap, h3⟩
    by_cases hkc : tk.kind = c
    ·subst hkc
     cases hl : E.lx tk.stop with
     | none =>
      have hgn : nMany (E.lx) F tk.kind n t1 = none := by
       rw [← HV.out.goal]; unfold nMany; rw [if_pos rfl, hl]; rfl
      have HZ := aK (show nRev (E.lx) F o tk.kind must n t = none by rw [HR.out, hgn]; rfl)
      have HK := aK (skip_err E wr tk HV.out.ps hl)
      clear hl hgn
      go_wp2_with fail
      refine HK.out.mono ?_
      rintro e w3 ⟨⟨g, rfl⟩, hk⟩
      have HK3 := aK hk
      clear hk
      go_wp2_with fail
      go_ret2
      exact .inr ⟨HZ.out, _, ⟨g, rfl⟩, HV.out.keep.trans HK3.out⟩
     | some tend =>
      have hgn : nMany (E.lx) F tk.kind n t1 = some (ys, tend) := by
       rw [← HV.out.goal]; unfold nMany; rw [if_pos rfl, hl]; simp
      have HZ := aK (show nRev (E.lx) F o tk.kind must n t = if must = true ∧ i = 0 then none else some (ys, tend) by rw [HR.out, hgn, ← HV.out.len]; rfl)
      have HK := aK (skip_yes E wr tk tend HV.out.ps hl)
      clear hl hgn
      by_cases hm : must = true ∧ i = 0
      ·obtain ⟨rfl, rfl⟩ := hm
       have HZ2 := aK (HZ.out.trans (if_pos ⟨rfl, rfl⟩))
       clear HZ
       rcases hvs with ⟨rfl, _⟩ | ⟨g, cap, rfl⟩
       all_goals
        go_wp2_with fail
        refine HK.out.mono ?_
        rintro e w3 ⟨rfl, hk, hp3⟩
        have HK3 := aK hk
        have c1 := hk.cell HV.out.tok hnT.1 hnT.2
        have HX3 := aK (fun st k1 k2 => empty_any E w3 tend st k1 k2 hp3)
        clear hk hp3
        go_wp2_with fail
        refine (HX3.out _ _ _).mono ?_
        rintro e w4 ⟨⟨g4, rfl⟩, hb4⟩
        have HB4 := aK hb4
        clear hb4
        go_wp2_with fail
        go_ret2
        exact .inr ⟨HZ2.out, _, ⟨g4, rfl⟩, (HV.out.keep.trans HK3.out).then HB4.out⟩
      ·have HZ2 := aK (HZ.out.trans (if_neg hm))
       have hmi : must = false ∨ (must = true ∧ ((i : Int) == 0) = false ∧ (i == 0) = false) := by
        cases must with
        | false => exact .inl rfl
        | true => exact .inr ⟨rfl, beq_eq_false_iff_ne.2 (fun e => hm ⟨rfl, by omega⟩), beq_eq_false_iff_ne.2 (fun e => hm ⟨rfl, e⟩)⟩
       have HRW := aK (fun w3 (hk : Keeps E.pb E.qb wr w3) => by
        obtain ⟨xs, hown, hxs⟩ := HV.out.row
        have h2 := row_keep (base := w2.heap.size + 1) HG.out hEL (by have := ps_lt HP.out; omega) hk hown hxs
        exact irow_of h2.1 h2.2 (by have := HV.out.few; omega))
       clear HZ hm
       have hvi : (must = true ∧ (i == 0) = false ∧ ((i : Int) == 0) = false ∧ ∃ g cap, u14 = .slice (some ⟨g, 0, none⟩) i cap) ∨ (must = false ∧ ((u14 = .slice none 0 0 ∧ i = 0) ∨ ∃ g cap, u14 = .slice (some ⟨g, 0, none⟩) i cap)) := by
        rcases hmi with rfl | ⟨rfl, hi1, hi2⟩
        ·exact .inr ⟨rfl, hvs⟩
        ·rcases hvs with ⟨_, rfl⟩ | h
         ·exact absurd hi2 (by simp)
         ·exact .inl ⟨rfl, hi2, hi1, h⟩
       clear hmi hvs
       rcases hvi with ⟨rfl, hi2, hi1, g, cap, rfl⟩ | ⟨rfl, ⟨rfl, rfl⟩ | ⟨g, cap, rfl⟩⟩
       all_goals
        go_wp2_with fail
        refine HK.out.mono ?_
        rintro e w3 ⟨rfl, hk, hp3⟩
        have HK3 := aK hk
        have HP3 := aK hp3
        clear hk hp3
        go_wp2_with fail
        go_ret2
        exact .inl ⟨ys, tend, _, HZ2.out, rfl, HRW.out _ HK3.out, HV.out.keep.trans HK3.out, HP3.out⟩
    ·have HK := aK (skip_no E wr tk c HV.out.ps hkc)
     have hLw : L ≤ wr.heap.size := by have := HV.out.size; omega
     have hnn : nu E.s tk < n := by have h2 := HV.out.fuel; have h3 := HV.out.few; omega
     cases hf : F tk with
     | none =>
      have hgn : nMany (E.lx) F c n t1 = none := by
       rw [← HV.out.goal]; unfold nMany; rw [if_neg hkc, hf]; rfl
      have HZ := aK (show nRev (E.lx) F o c must n t = none by rw [HR.out, hgn]; rfl)
      have HN := aK (HI.out.no wr tk HV.out.ps hLw hnn hf)
      clear hf hgn hkc
      go_wp2_with fail
      refine HK.out.mono ?_
      rintro e w3 ⟨rfl, rfl⟩
      go_wp2_with fail
      refine HN.out.mono ?_
      rintro e w3 ⟨v3, ⟨g, rfl⟩, hk⟩
      have HK3 := aK hk
      clear hk
      go_wp2_with fail
      go_ret2
      exact .inr ⟨HZ.out, _, ⟨g, rfl⟩, HV.out.keep.trans HK3.out⟩
     | some yt2 =>
      obtain ⟨y2, t2⟩ := yt2
      have HN := aK (HI.out.yes wr tk y2 t2 HV.out.ps hLw hnn hf)
      have HST := aK (fun w2' w3 v' (hk2 : Keeps E.pb E.qb wr w2') (hp2 : PS E w2' t2) (ty : TypeId) (x : Value) (hx : G y2 w2' (.iface ty x)) (o : Obj) (xs : List Value) hown hxs hown' hgrow => rev_step (v' := v') (w3 := w3) (w2 := w2') (o := o) (xs := xs) HG.out HI.out.prog HV.out hkc hf HP.out (by omega) ⟨Nat.lt_succ_self _, hnT.1, hnT.2⟩ hk2 hp2 hx hown hxs hown' hgrow)
      have hfew := HV.out.few
      have hszr := HV.out.size
      clear hf hkc
      go_wp2_with fail
      refine HK.out.mono ?_
      rintro e w3 ⟨rfl, rfl⟩
      go_wp2_with fail
      refine HN.out.mono ?_
      rintro e w3 ⟨ty, x, rfl, hgx, hk, hp3⟩
      obtain ⟨xs, hown0, hxs0⟩ := HV.out.row
      obtain ⟨hown, hxs⟩ := row_keep (base := w2.heap.size + 1) HG.out hEL (by have := ps_lt HP.out; omega) hk hown0 hxs0
      have hsz3 := hk.size
      have HX3 := aK (⟨hgx, hk, hp3⟩ : G y2 w3 (.iface ty x) ∧ Keeps E.pb E.qb wr w3 ∧ PS E w3 t2)
      have HO := aK hown
      have HXS := aK hxs
      clear hgx hk hp3 hown0 hxs0 hown hxs
      go_wp2_with (at_builtin; refine wpList_append_own _ rfl _ _ 159 rfl (w2.heap.size + 1) 20 i0 .nilIface 1 16 Tryz.underlying159 hi hz0 hz1 hz2 rfl (by decide) _ _ _ rfl (HO.out.alloc _) ⟨w3.heap.size, 0, none⟩ 1 1 [.iface ty x] rfl rfl ?c1 ?c2 ?c3 ?c4 ?c5 ?_)
      case c1 =>
       intro j u hj
       match j, hj with
       | 0, hj => simp at hj; subst hj; simp [Addr.add]
      case c2 => intro u hu; simp at hu; subst hu; rfl
      case c3 => unfold maxLen; omega
      case c4 => omega
      case c5 => simp; omega
      ·intro v' w4 hown' hgrow _
       have HR4 := aK (HST.out w3 w4 v' HX3.out.2.1 HX3.out.2.2 ty x HX3.out.1 _ xs HO.out HXS.out hown' hgrow)
       clear hown' hgrow
       go_wp2_with fail
       go_roundg k
       case rel => exact ⟨i + 1, ys ++ [y2], t2, HR4⟩
       case measure => omega
end Go.Proofs.YtjoagdldbmlenaaGreatDoor.Par
namespace Go.Proofs.YtjoagdldbmlenaaGreatDoor.Par
open Go.RowKit Go.Proofs.YtjoagdldbmlenaaGreatDoorW.PrintWords Keep Go.Proofs.YtjoagdldbmlenaaGreatDoor.Mod Sim Four Step Env Err Lx Ast New Tree
theorem own_item {w : World} {base n : Nat} {T : TypeId} {v : Value} {xs : List Value} (h : w.ownsRow base T 1 v n xs) : xs.length = n ∧ ((v = .slice none 0 0 ∧ n = 0) ∨ ∃ g cap cs, v = .slice (some ⟨g, 0, none⟩) n cap ∧ base ≤ g ∧ w.heap[g]? = some (.cells cs T (0, 0)) ∧ ∀ (i : Nat) (x : Value), xs[i]? = some x → w.cell? ⟨g, i, none⟩ = some x) := by
 obtain ⟨hl, h⟩ := h
 refine ⟨by omega, ?_⟩
 rcases h with h | ⟨g, cap, cur, rfl, hb, hh, hc, hm, hcs, htk⟩
 ·exact .inl h
 ·refine .inr ⟨g, cap, cur, rfl, hb, hh, fun i x hi => ?_⟩
  rw [cell_of_row w g i cur _ (0, 0) hh]
  have h3 : (cur.toList.take (n * 1))[i]? = some x := by rw [htk]; exact hi
  rw [List.getElem?_take] at h3
  split at h3
  ·rw [← h3]; simp
  ·cases h3
theorem grow_of {L base n : Nat} {w : World} {T : TypeId} {v : Value} {xs : List Value} {ys : List NL} {P : NL → World → Value → Prop} (h : w.ownsRow base T 1 v n xs) (hL : L ≤ base) (hT : T ≠ 20 ∧ T ≠ 67) (hx : Both (fun y x => P y w x) ys xs) : GRow L P ys w v := by
 have hyl := both_len hx
 obtain ⟨hxl, h⟩ := own_item h
 have hn : ys.length = n := by omega
 subst hn
 rcases h with ⟨rfl, h0⟩ | ⟨g, cap, cs, rfl, hb, hh, hi⟩
 ·exact ⟨none, 0, by rw [h0], .inl (List.eq_nil_of_length_eq_zero h0)⟩
 ·refine ⟨_, cap, rfl, .inr ⟨g, 0, rfl, fun i y hin => ?_⟩⟩
  obtain ⟨x, hxi, hp⟩ := both_get hx i y hin
  exact ⟨x, ⟨by omega, by rw [Nat.zero_add]; exact hi i x hxi, cs, T, (0, 0), hh, hT.1, hT.2⟩, hp⟩
theorem growD_of {L base n : Nat} {w : World} {T : TypeId} {v : Value} {xs : List Value} {ys : List NL} {P : NL → World → Value → Prop} (h : w.ownsRow base T 1 v n xs) (hL : L ≤ base) (hT : T ≠ 20) (hx : Both (fun y x => P y w x) ys xs) : GRowD L P ys w v := by
 have hyl := both_len hx
 obtain ⟨hxl, h⟩ := own_item h
 have hn : ys.length = n := by omega
 subst hn
 rcases h with ⟨rfl, h0⟩ | ⟨g, cap, cs, rfl, hb, hh, hi⟩
 ·exact ⟨none, 0, by rw [h0], .inl (List.eq_nil_of_length_eq_zero h0)⟩
 ·refine ⟨_, cap, rfl, .inr ⟨g, 0, rfl, fun i y hin => ?_⟩⟩
  obtain ⟨x, hxi, hp⟩ := both_get hx i y hin
  exact ⟨x, ⟨by omega, by rw [Nat.zero_add]; exact hi i x hxi, cs, T, (0, 0), hh, hT⟩, hp⟩
theorem own_empty (w : World) (T : TypeId) : (w.alloc (.cells #[] T)).ownsRow w.heap.size T 1 (.slice (some ⟨w.heap.size, 0, none⟩) 0 0) 0 [] :=
 ⟨rfl, .inr ⟨w.heap.size, 0, #[], rfl, Nat.le_refl _, Blk.new w T #[], Nat.le_refl _, Nat.zero_le _, rfl, rfl⟩⟩
structure CopyInv (w0 : World) (T : TypeId) (i : Nat) (ys : Nat → Value) (v : Value) (wr : World) : Prop where
 below : Below w0.heap.size w0 wr
 row : wr.ownsRow w0.heap.size T 1 v i ((List.range i).map ys)
theorem copy_step {w0 wr w2 : World} {T : TypeId} {i : Nat} {ys : Nat → Value} {v v' : Value} {o : Obj} (h : CopyInv w0 T i ys v wr) (hown : w2.ownsRow w0.heap.size T 1 v' (i + 1) ((List.range i).map ys ++ [ys i])) (hg : (wr.alloc o).grownBy w2 v.ownBlock) : CopyInv w0 T (i + 1) ys v' w2 := by
 have hsz := h.below.size
 refine ⟨(h.below.alloc hsz o).grown hg (by simp; omega) (fun g hg2 => ?_), by rw [List.range_succ, List.map_append]; exact hown⟩
 rcases h.row.2 with ⟨rfl, _⟩ | ⟨g', cap, cur, rfl, hb, _⟩
 ·cases hg2
 ·have : g' = g := by simpa [Value.ownBlock] using hg2
  omega
theorem both_range {P : NL → Value → Prop} {ys : Nat → Value} {zs : List NL} (h : ∀ (i : Nat) (z : NL), zs[i]? = some z → P z (ys i)) : Both P zs ((List.range zs.length).map ys) := by
 have key : ∀ (zs : List NL) (k : Nat), (∀ (i : Nat) (z : NL), zs[i]? = some z → P z (ys (k + i))) → Both P zs ((List.range' k zs.length).map ys) := by
  intro zs
  induction zs with
  | nil => intro k _; exact trivial
  | cons z zs ih =>
   intro k hz
   rw [List.length_cons, List.range'_succ, List.map_cons]
   refine ⟨hz 0 z (by simp), ih (k + 1) fun i y hi => ?_⟩
   have := hz (i + 1) y (by simpa using hi)
   rwa [show k + (i + 1) = k + 1 + i by omega] at this
 have := key zs 0 (fun i z hz => by rw [Nat.zero_add]; exact h i z hz)
 rwa [← List.range_eq_range'] at this
theorem own_mono {w : World} {base base' n : Nat} {T : TypeId} {v : Value} {xs : List Value} (h : w.ownsRow base T 1 v n xs) (hb : base' ≤ base) : w.ownsRow base' T 1 v n xs := by
 obtain ⟨hl, h⟩ := h
 refine ⟨hl, ?_⟩
 rcases h with h | ⟨g, cap, cur, e, h1, r⟩
 ·exact .inl h
 ·exact .inr ⟨g, cap, cur, e, by omega, r⟩
theorem copy_first {w0 w2 : World} {T : TypeId} {ys : Nat → Value} {v' : Value} {o : Obj} (hown : w2.ownsRow (w0.heap.size + 1) T 1 v' 1 [ys 0]) (hg : (w0.alloc o).grownBy w2 none) : CopyInv w0 T 1 ys v' w2 :=
 ⟨((Below.refl w0.heap.size w0).alloc (Nat.le_refl _) o).grown hg (by simp) (fun g h => by cases h), own_mono hown (by simp)⟩
theorem own_keepK {p q : Nat} {w w' : World} {base n : Nat} {T : TypeId} {v : Value} {xs : List Value} (h : w.ownsRow base T 1 v n xs) (hk : Keeps p q w w') (hb : p < base ∧ q < base) : w'.ownsRow base T 1 v n xs := by
 obtain ⟨hl, h⟩ := h
 refine ⟨hl, ?_⟩
 rcases h with h | ⟨g, cap, cur, e, h1, hh, r⟩
 ·exact .inl h
 ·have hlt : g < w.heap.size := by
   rcases Nat.lt_or_ge g w.heap.size with h2 | h2
   ·exact h2
   ·rw [Array.getElem?_eq_none h2] at hh; cases hh
  exact .inr ⟨g, cap, cur, e, h1, (hk.block g hlt (by omega) (by omega)).trans hh, r⟩
theorem as_v1 (v : Value) (w : World) : (Instr.typeAssert (.iface 122 v) 20 103 false).run Tryz.prog w = .ok (.iface 122 v) w := by kernel_rfl
theorem as_v2 (v : Value) (w : World) : (Instr.typeAssert (.iface 125 v) 20 103 false).run Tryz.prog w = .ok (.iface 125 v) w := by kernel_rfl
theorem as_v3 (v : Value) (w : World) : (Instr.typeAssert (.iface 127 v) 20 103 false).run Tryz.prog w = .ok (.iface 127 v) w := by kernel_rfl
theorem as_v4 (v : Value) (w : World) : (Instr.typeAssert (.iface 129 v) 20 103 false).run Tryz.prog w = .ok (.iface 129 v) w := by kernel_rfl
theorem as_v5 (v : Value) (w : World) : (Instr.typeAssert (.iface 131 v) 20 103 false).run Tryz.prog w = .ok (.iface 131 v) w := by kernel_rfl
theorem as_v6 (v : Value) (w : World) : (Instr.typeAssert (.iface 134 v) 20 103 false).run Tryz.prog w = .ok (.iface 134 v) w := by kernel_rfl
theorem as_v7 (v : Value) (w : World) : (Instr.typeAssert (.iface 136 v) 20 103 false).run Tryz.prog w = .ok (.iface 136 v) w := by kernel_rfl
theorem as_v8 (v : Value) (w : World) : (Instr.typeAssert (.iface 140 v) 20 103 false).run Tryz.prog w = .ok (.iface 140 v) w := by kernel_rfl
theorem as_value {L n : Nat} {z : NL} {W : World} {x : Value} (h : GVal L n z W x) (w : World) : (Instr.typeAssert x 20 103 false).run Tryz.prog w = .ok x w := by
 cases n with
 | zero => cases h
 | succ n =>
  obtain ⟨g, lv, _, _, h⟩ := h
  rcases h with ⟨rfl, _⟩ | ⟨rfl, _⟩ | ⟨rfl, _⟩ | ⟨rfl, _⟩ | ⟨rfl, _⟩ | ⟨rfl, _⟩ | ⟨rfl, _⟩ | ⟨rfl, _⟩
  ·exact as_v1 _ _
  ·exact as_v2 _ _
  ·exact as_v3 _ _
  ·exact as_v4 _ _
  ·exact as_v5 _ _
  ·exact as_v6 _ _
  ·exact as_v7 _ _
  ·exact as_v8 _ _
theorem infoVal : (Tryz.prog.info? 103).map (fun i => (i.zero, i.size, i.bytes)) = some (some .nilIface, 1, 16) := by kernel_rfl
theorem irow_items {G : NL → World → Value → Prop} {zs : List NL} {w : World} {v : Value} (h : IRow G zs w v) : ∃ A m c, v = .slice A m c ∧ m ≤ c ∧ m ≤ 200000 ∧ zs.length = m ∧ ∃ b, ∃ ys : Nat → Value, (0 < m → A = some ⟨b, 0, none⟩) ∧ ∀ i, i < m → ∃ z, zs[i]? = some z ∧ w.cell? ⟨b, i, none⟩ = some (ys i) ∧ (∃ ty y, ys i = .iface ty y) ∧ G z w (ys i) := by
 obtain ⟨A, m, c, rfl, ⟨hc, hc2⟩, hl, h⟩ := h
 rcases h with rfl | ⟨b, hA, h⟩
 ·exact ⟨A, 0, c, rfl, hc, hc2, hl, 0, fun _ => .nilIface, fun h => absurd h (by omega), fun i hi => absurd hi (by omega)⟩
 ·have h2 : ∀ i : Nat, ∃ y : Value, i < m → ∃ z, zs[i]? = some z ∧ w.cell? ⟨b, i, none⟩ = some y ∧ (∃ ty z, y = .iface ty z) ∧ G z w y := fun i => by
   by_cases hi : i < m
   ·obtain ⟨z, hz⟩ : ∃ z, zs[i]? = some z := ⟨zs[i]'(by omega), List.getElem?_eq_getElem _⟩
    obtain ⟨ty, y, h3, h4⟩ := h i z hz
    exact ⟨.iface ty y, fun _ => ⟨z, hz, h3, ⟨ty, y, rfl⟩, h4⟩⟩
   ·exact ⟨.nilIface, fun h => absurd h hi⟩
  exact ⟨A, m, c, rfl, hc, hc2, hl, b, fun i => Classical.choose (h2 i), fun _ => hA, fun i hi => Classical.choose_spec (h2 i) hi⟩
theorem list_false (E : At) (w : World) (t : Tok) (n L : Nat) (hP : PS E w t) (hL : L ≤ w.heap.size) (hEL : E.pb < L ∧ E.qb < L) (hI : Item E L (nVal E.lx false n) (GVal L n) 128 n) (hn : nu E.s t ≤ n) (hN : n ≤ 200000) :
  Calls Tryz.prog 107 #[.pointer (some ⟨E.pb, 0, none⟩), .bool false] w fun e w' =>
   (∃ zs t' g, nRev (E.lx) (nVal E.lx false n) 10 11 false n t = some (zs, t') ∧ e = .returned (.tuple #[.pointer (some ⟨g, 0, none⟩), .nilIface]) ∧ GVal L (n + 1) (nd 17 emp emp emp 0 zs) w' (.iface 136 (ptr g)) ∧ Keeps E.pb E.qb w w' ∧ PS E w' t') ∨
   (nRev (E.lx) (nVal E.lx false n) 10 11 false n t = none ∧ PErr E w (.pointer none) e w') := by
 obtain ⟨i0, hi, hz0, hz1, hz2⟩ := info_parts infoVal
 obtain ⟨c1, c2, c3, c4, c5, c6, c7, c8⟩ := ps_cells hP
 have HV := aK (rev_fn 128 (.inl rfl) E (w.alloc (.cells #[] 103)) t 10 11 false n L (nVal E.lx false n) (GVal L n) (hP.below (below_alloc (Below.refl _ _) _)) (by simp; omega) hEL hI (st_val n) (by decide) hn hN)
 have HP0 := aK hP
 clear hP hI c1 c2 c3 c4 c5 c7 c8
 go_enter Tryz.func107, Tryz.ntmps107
 go_wp2_with fail
 refine HV.out.mono ?_
 rintro e w2 (⟨zs, t', v, hr, rfl, hrow, hk, hp⟩ | ⟨hr, v, ⟨g, rfl⟩, hk⟩)
 ·obtain ⟨A, m, c, rfl, hmc, hm2, hzl, b, ys, hA, hys⟩ := irow_items hrow
  have HZL := aK hzl
  have HR := aK hr
  have HK := aK (((Keeps.refl E.pb E.qb w).alloc _).trans hk)
  have HP := aK hp
  have HYS := aK hys
  have HA := aK hA
  have hsz2 := HK.out.size
  have H8 := aK (own_keepK (p := E.pb) (q := E.qb) (own_empty w 103) hk (by have := ps_lt HP0.out; omega))
  have hg8 : w.heap.size < w2.heap.size := by have h := hk.size; simp at h; omega
  clear hr hk hp hys hrow hA hzl
  go_wp2_with fail
  go_loopw [8, 31] (fun v8 v31 wr => ∃ i : Nat, v31 = .int .i64 i ∧ i ≤ m ∧ ((i = 0 ∧ v8 = .slice (some ⟨w.heap.size, 0, none⟩) 0 0 ∧ wr = w2) ∨ (0 < i ∧ Aside0 (CopyInv w2 103 i ys v8 wr)))) (fun _ v31 _ => m - (intOf v31).toNat)
  case atStart => exact ⟨0, rfl, Nat.zero_le _, .inl ⟨rfl, rfl, rfl⟩⟩
  case round =>
   obtain ⟨i, rfl, him, hcase⟩ := hrel
   by_cases hlt : i < m
   ·have hlti : (i : Int) < (m : Int) := by omega
    obtain rfl := HA.out (by omega)
    obtain ⟨z, hz, hc0, ⟨ty, y, hy⟩, hgy⟩ := HYS.out i hlt
    have hab := as_value hgy
    rw [hy] at hab hc0
    clear hgy hz
    have HY := aK hy
    clear hy
    rcases hcase with ⟨rfl, rfl, rfl⟩ | ⟨hi0, HC⟩
    ·go_wp2_with (at_builtin; refine wpList_append_grows _ rfl _ _ 137 rfl 103 i0 .nilIface 1 16 Tryz.underlying137 hi hz0 hz1 hz2 rfl (by decide) (some ⟨w.heap.size, 0, none⟩) 0 0 [] rfl (fun h => by cases h) rfl (fun b hb j u hu => by cases hu) ⟨wr.heap.size, 0, none⟩ 1 1 [.iface ty y] rfl rfl ?c1 ?c2 ?c3 ?c4 ?c5 ?_)
     case c2 => rfl
     case c4 => unfold maxLen; omega
     ·intro v' w4 hown' hgrow
      have HS := aK (show CopyInv wr 103 1 ys v' w4 from copy_first (by rw [HY.out]; exact hown') hgrow)
      clear hown' hgrow
      go_wp2_with fail
      go_roundw
      case rel => exact ⟨1, by go_num, by omega, .inr ⟨by omega, HS⟩⟩
      case measure => simp [intOf]; omega
    ·have hown := HC.out.row
     have hc1 := (HC.out.below.cell (p := ⟨b, i, none⟩) (World.block_lt_of_cell? _ _ hc0)).trans hc0
     have hszr := HC.out.below.size
     have HO := aK hown
     clear hown hc0
     go_wp2_with (at_builtin; refine wpList_append_own _ rfl _ _ 137 rfl w2.heap.size 103 i0 .nilIface 1 16 Tryz.underlying137 hi hz0 hz1 hz2 rfl (by decide) _ _ _ rfl (HO.out.alloc _) ⟨wr.heap.size, 0, none⟩ 1 1 [.iface ty y] rfl rfl ?d1 ?d2 ?d3 ?d4 ?d5 ?_)
     case d2 => rfl
     case d3 => unfold maxLen; omega
     case d4 => omega
     case d5 => omega
     ·intro v' w4 hown' hgrow _
      have HS := aK (copy_step HC.out (by rw [HY.out]; exact hown') hgrow)
      clear hown' hgrow
      go_wp2_with fail
      go_roundw
      case rel => exact ⟨i + 1, by go_num, by omega, .inr ⟨by omega, HS⟩⟩
      case measure => simp [intOf]; omega
   ·obtain rfl : i = m := by omega
    have hge : ¬ (i : Int) < (i : Int) := by omega
    have HS : Aside0 (∃ xs, ∃ base, L ≤ base ∧ wr.ownsRow base 103 1 u8 i xs ∧ Both (fun z x => GVal L n z wr x) zs xs ∧ Below w2.heap.size w2 wr) := ⟨by
     rcases hcase with ⟨rfl, rfl, rfl⟩ | ⟨hi0, HC⟩
     ·obtain rfl := List.eq_nil_of_length_eq_zero HZL.out
      exact ⟨[], w.heap.size, hL, H8.out, trivial, Below.refl _ _⟩
     ·refine ⟨_, w2.heap.size, by omega, HC.out.row, ?_, HC.out.below⟩
      rw [← HZL.out]
      refine both_range fun j z hj => ?_
      have hjm : j < i := by rw [← HZL.out]; exact (List.getElem?_eq_some_iff.1 hj).1
      obtain ⟨z', hz', _, _, hg'⟩ := HYS.out j hjm
      rw [hj] at hz'
      obtain rfl := Option.some.inj hz'
      exact st_val n z _ _ _ (Up.of_below HC.out.below) hg'⟩
    clear hcase
    have hv8 : ∃ A8 c8, u8 = .slice A8 i c8 := by
     obtain ⟨xs, base, _, h2, _⟩ := HS.out
     rcases h2.2 with ⟨h3, h4⟩ | ⟨g, cap, cur, h3, _⟩
     ·exact ⟨none, 0, by rw [h3, h4]⟩
     ·exact ⟨_, _, h3⟩
    obtain ⟨A8, c8, rfl⟩ := hv8
    have HBW := aK (HS.out.choose_spec.choose_spec.2.2.2)
    have HLC := aK (loc_any E wr t' t.start L (HP.out.below HBW.out) (by have := HBW.out.size; omega))
    go_wp2_with fail
    refine HLC.out.mono ?_
    rintro e w4 ⟨v, rfl, hg, ⟨a, rfl⟩, hb⟩
    have HB4 := aK hb
    have HGL := aK hg
    clear hb hg
    go_wp2_with fail
    refine (new_ListValue w4.heap.size _ a A8 i c8 _ (Blk.new _ _ _)).mono ?_
    rintro e w5 ⟨g, rfl, hn5, ⟨s5, hb5⟩, hk5⟩
    have HB5 := aK hb5
    have HK5 := aK hk5
    clear hb5 hk5
    go_wp2_with fail
    have hbb := made_two HB4.out HK5.out
    have hb45 := made_below HK5.out
    have hb25 := HBW.out.trans (hbb.mono HBW.out.size)
    have hLn : L ≤ g := by have h1 := HBW.out.size; have h2 := HB4.out.size; omega
    obtain ⟨xs, base, hLb, hown, hgx, _⟩ := HS.out
    have hrow := st_row (s2_val n) _ _ _ (Up.of_below hbb) (grow_of (P := GVal L n) hown hLb (by decide) hgx)
    refine bodyPost_ret (v := .tuple #[.pointer (some ⟨g, 0, none⟩), .nilIface]) (by simp [results, Tryz.results107, go_sem]) rfl (.inl ⟨zs, t', g, HR.out, rfl, ⟨g, _, .of_blk HB5.out hLn rfl (by decide), st_gloc HGL.out hb45, .inr (.inr (.inr (.inr (.inr (.inr (.inl ⟨rfl, _, zs, .of_blk HB5.out hLn rfl (by decide), hrow, rfl⟩))))))⟩, HK.out.then hb25, HP.out.below hb25⟩)
 ·have HR := aK hr
  have HK := aK (((Keeps.refl E.pb E.qb w).alloc _).trans hk)
  clear hr hk
  go_wp2_with fail
  go_ret2
  exact .inr ⟨HR.out, ⟨g, rfl⟩, HK.out⟩
theorem list_true (E : At) (w : World) (t : Tok) (n L : Nat) (hP : PS E w t) (hL : L ≤ w.heap.size) (hEL : E.pb < L ∧ E.qb < L) (hI : Item E L (nVal E.lx true n) (GVal L n) 129 n) (hn : nu E.s t ≤ n) (hN : n ≤ 200000) :
  Calls Tryz.prog 107 #[.pointer (some ⟨E.pb, 0, none⟩), .bool true] w fun e w' =>
   (∃ zs t' g, nRev (E.lx) (nVal E.lx true n) 10 11 false n t = some (zs, t') ∧ e = .returned (.tuple #[.pointer (some ⟨g, 0, none⟩), .nilIface]) ∧ GVal L (n + 1) (nd 17 emp emp emp 0 zs) w' (.iface 136 (ptr g)) ∧ Keeps E.pb E.qb w w' ∧ PS E w' t') ∨
   (nRev (E.lx) (nVal E.lx true n) 10 11 false n t = none ∧ PErr E w (.pointer none) e w') := by
 obtain ⟨i0, hi, hz0, hz1, hz2⟩ := info_parts infoVal
 obtain ⟨c1, c2, c3, c4, c5, c6, c7, c8⟩ := ps_cells hP
 have HV := aK (rev_fn 129 (.inr (.inl rfl)) E (w.alloc (.cells #[] 103)) t 10 11 false n L (nVal E.lx true n) (GVal L n) (hP.below (below_alloc (Below.refl _ _) _)) (by simp; omega) hEL hI (st_val n) (by decide) hn hN)
 have HP0 := aK hP
 clear hP hI c1 c2 c3 c4 c5 c7 c8
 go_enter Tryz.func107, Tryz.ntmps107
 go_wp2_with fail
 refine HV.out.mono ?_
 rintro e w2 (⟨zs, t', v, hr, rfl, hrow, hk, hp⟩ | ⟨hr, v, ⟨g, rfl⟩, hk⟩)
 ·obtain ⟨A, m, c, rfl, hmc, hm2, hzl, b, ys, hA, hys⟩ := irow_items hrow
  have HZL := aK hzl
  have HR := aK hr
  have HK := aK (((Keeps.refl E.pb E.qb w).alloc _).trans hk)
  have HP := aK hp
  have HYS := aK hys
  have HA := aK hA
  have hsz2 := HK.out.size
  have H8 := aK (own_keepK (p := E.pb) (q := E.qb) (own_empty w 103) hk (by have := ps_lt HP0.out; omega))
  have hg8 : w.heap.size < w2.heap.size := by have h := hk.size; simp at h; omega
  clear hr hk hp hys hrow hA hzl
  go_wp2_with fail
  go_loopw [8, 31] (fun v8 v31 wr => ∃ i : Nat, v31 = .int .i64 i ∧ i ≤ m ∧ ((i = 0 ∧ v8 = .slice (some ⟨w.heap.size, 0, none⟩) 0 0 ∧ wr = w2) ∨ (0 < i ∧ Aside0 (CopyInv w2 103 i ys v8 wr)))) (fun _ v31 _ => m - (intOf v31).toNat)
  case atStart => exact ⟨0, rfl, Nat.zero_le _, .inl ⟨rfl, rfl, rfl⟩⟩
  case round =>
   obtain ⟨i, rfl, him, hcase⟩ := hrel
   by_cases hlt : i < m
   ·have hlti : (i : Int) < (m : Int) := by omega
    obtain rfl := HA.out (by omega)
    obtain ⟨z, hz, hc0, ⟨ty, y, hy⟩, hgy⟩ := HYS.out i hlt
    have hab := as_value hgy
    rw [hy] at hab hc0
    clear hgy hz
    have HY := aK hy
    clear hy
    rcases hcase with ⟨rfl, rfl, rfl⟩ | ⟨hi0, HC⟩
    ·go_wp2_with (at_builtin; refine wpList_append_grows _ rfl _ _ 137 rfl 103 i0 .nilIface 1 16 Tryz.underlying137 hi hz0 hz1 hz2 rfl (by decide) (some ⟨w.heap.size, 0, none⟩) 0 0 [] rfl (fun h => by cases h) rfl (fun b hb j u hu => by cases hu) ⟨wr.heap.size, 0, none⟩ 1 1 [.iface ty y] rfl rfl ?c1 ?c2 ?c3 ?c4 ?c5 ?_)
     case c2 => rfl
     case c4 => unfold maxLen; omega
     ·intro v' w4 hown' hgrow
      have HS := aK (show CopyInv wr 103 1 ys v' w4 from copy_first (by rw [HY.out]; exact hown') hgrow)
      clear hown' hgrow
      go_wp2_with fail
      go_roundw
      case rel => exact ⟨1, by go_num, by omega, .inr ⟨by omega, HS⟩⟩
      case measure => simp [intOf]; omega
    ·have hown := HC.out.row
     have hc1 := (HC.out.below.cell (p := ⟨b, i, none⟩) (World.block_lt_of_cell? _ _ hc0)).trans hc0
     have hszr := HC.out.below.size
     have HO := aK hown
     clear hown hc0
     go_wp2_with (at_builtin; refine wpList_append_own _ rfl _ _ 137 rfl w2.heap.size 103 i0 .nilIface 1 16 Tryz.underlying137 hi hz0 hz1 hz2 rfl (by decide) _ _ _ rfl (HO.out.alloc _) ⟨wr.heap.size, 0, none⟩ 1 1 [.iface ty y] rfl rfl ?d1 ?d2 ?d3 ?d4 ?d5 ?_)
     case d2 => rfl
     case d3 => unfold maxLen; omega
     case d4 => omega
     case d5 => omega
     ·intro v' w4 hown' hgrow _
      have HS := aK (copy_step HC.out (by rw [HY.out]; exact hown') hgrow)
      clear hown' hgrow
      go_wp2_with fail
      go_roundw
      case rel => exact ⟨i + 1, by go_num, by omega, .inr ⟨by omega, HS⟩⟩
      case measure => simp [intOf]; omega
   ·obtain rfl : i = m := by omega
    have hge : ¬ (i : Int) < (i : Int) := by omega
    have HS : Aside0 (∃ xs, ∃ base, L ≤ base ∧ wr.ownsRow base 103 1 u8 i xs ∧ Both (fun z x => GVal L n z wr x) zs xs ∧ Below w2.heap.size w2 wr) := ⟨by
     rcases hcase with ⟨rfl, rfl, rfl⟩ | ⟨hi0, HC⟩
     ·obtain rfl := List.eq_nil_of_length_eq_zero HZL.out
      exact ⟨[], w.heap.size, hL, H8.out, trivial, Below.refl _ _⟩
     ·refine ⟨_, w2.heap.size, by omega, HC.out.row, ?_, HC.out.below⟩
      rw [← HZL.out]
      refine both_range fun j z hj => ?_
      have hjm : j < i := by rw [← HZL.out]; exact (List.getElem?_eq_some_iff.1 hj).1
      obtain ⟨z', hz', _, _, hg'⟩ := HYS.out j hjm
      rw [hj] at hz'
      obtain rfl := Option.some.inj hz'
      exact st_val n z _ _ _ (Up.of_below HC.out.below) hg'⟩
    clear hcase
    have hv8 : ∃ A8 c8, u8 = .slice A8 i c8 := by
     obtain ⟨xs, base, _, h2, _⟩ := HS.out
     rcases h2.2 with ⟨h3, h4⟩ | ⟨g, cap, cur, h3, _⟩
     ·exact ⟨none, 0, by rw [h3, h4]⟩
     ·exact ⟨_, _, h3⟩
    obtain ⟨A8, c8, rfl⟩ := hv8
    have HBW := aK (HS.out.choose_spec.choose_spec.2.2.2)
    have HLC := aK (loc_any E wr t' t.start L (HP.out.below HBW.out) (by have := HBW.out.size; omega))
    go_wp2_with fail
    refine HLC.out.mono ?_
    rintro e w4 ⟨v, rfl, hg, ⟨a, rfl⟩, hb⟩
    have HB4 := aK hb
    have HGL := aK hg
    clear hb hg
    go_wp2_with fail
    refine (new_ListValue w4.heap.size _ a A8 i c8 _ (Blk.new _ _ _)).mono ?_
    rintro e w5 ⟨g, rfl, hn5, ⟨s5, hb5⟩, hk5⟩
    have HB5 := aK hb5
    have HK5 := aK hk5
    clear hb5 hk5
    go_wp2_with fail
    have hbb := made_two HB4.out HK5.out
    have hb45 := made_below HK5.out
    have hb25 := HBW.out.trans (hbb.mono HBW.out.size)
    have hLn : L ≤ g := by have h1 := HBW.out.size; have h2 := HB4.out.size; omega
    obtain ⟨xs, base, hLb, hown, hgx, _⟩ := HS.out
    have hrow := st_row (s2_val n) _ _ _ (Up.of_below hbb) (grow_of (P := GVal L n) hown hLb (by decide) hgx)
    refine bodyPost_ret (v := .tuple #[.pointer (some ⟨g, 0, none⟩), .nilIface]) (by simp [results, Tryz.results107, go_sem]) rfl (.inl ⟨zs, t', g, HR.out, rfl, ⟨g, _, .of_blk HB5.out hLn rfl (by decide), st_gloc HGL.out hb45, .inr (.inr (.inr (.inr (.inr (.inr (.inl ⟨rfl, _, zs, .of_blk HB5.out hLn rfl (by decide), hrow, rfl⟩))))))⟩, HK.out.then hb25, HP.out.below hb25⟩)
 ·have HR := aK hr
  have HK := aK (((Keeps.refl E.pb E.qb w).alloc _).trans hk)
  clear hr hk
  go_wp2_with fail
  go_ret2
  exact .inr ⟨HR.out, ⟨g, rfl⟩, HK.out⟩
theorem list_any (E : At) (cst : Bool) (w : World) (t : Tok) (n L : Nat) (hP : PS E w t) (hL : L ≤ w.heap.size) (hEL : E.pb < L ∧ E.qb < L) (hI : Item E L (nVal E.lx cst n) (GVal L n) (if cst = true then 129 else 128) n) (hn : nu E.s t ≤ n) (hN : n ≤ 200000) :
  Calls Tryz.prog 107 #[.pointer (some ⟨E.pb, 0, none⟩), .bool cst] w fun e w' =>
   (∃ zs t' g, nRev (E.lx) (nVal E.lx cst n) 10 11 false n t = some (zs, t') ∧ e = .returned (.tuple #[.pointer (some ⟨g, 0, none⟩), .nilIface]) ∧ GVal L (n + 1) (nd 17 emp emp emp 0 zs) w' (.iface 136 (ptr g)) ∧ Keeps E.pb E.qb w w' ∧ PS E w' t') ∨
   (nRev (E.lx) (nVal E.lx cst n) 10 11 false n t = none ∧ PErr E w (.pointer none) e w') := by
 cases cst
 ·exact list_false E w t n L hP hL hEL hI hn hN
 ·exact list_true E w t n L hP hL hEL hI hn hN
end Go.Proofs.YtjoagdldbmlenaaGreatDoor.Par
