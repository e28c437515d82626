import Derived.Test.YthbinlnpipgobaaGreatDoorU27
import Derived.Test.YthbinlnpipgobaaGreatDoorPFnPieceRefusedx1
namespace Go.Proofs.YthbinlnpipgobaaGreatDoor.Inst
set_option linter.unusedVariables false
set_option linter.unusedSimpArgs false
open Go.RowKit Go.Proofs.YthbinlnpipgobaaGreatDoorW.PrintWords Go.Proofs.YthbinlnpipgobaaGreatDoor.Keep Go.Proofs.YthbinlnpipgobaaGreatDoor.Mod Go.Proofs.YthbinlnpipgobaaGreatDoor.Sim Go.Proofs.YthbinlnpipgobaaGreatDoor.Four Go.Proofs.YthbinlnpipgobaaGreatDoor.Step Go.Proofs.YthbinlnpipgobaaGreatDoor.Env Go.Proofs.YthbinlnpipgobaaGreatDoor.Err Go.Proofs.YthbinlnpipgobaaGreatDoor.Lx Go.Proofs.YthbinlnpipgobaaGreatDoor.Ast Go.Proofs.YthbinlnpipgobaaGreatDoor.New Go.Proofs.YthbinlnpipgobaaGreatDoor.Tree Go.Proofs.YthbinlnpipgobaaGreatDoor.Fuel Go.Proofs.YthbinlnpipgobaaGreatDoor.Par Go.Proofs.YthbinlnpipgobaaGreatDoor.Take

theorem gdef_face {L n : Nat} {S : NL → World → Value → Prop} (y : NL) (w : World) (v : Value) (h : GDef L n S y w v) : ∃ ty x, v = .iface ty x := by
  rcases h with ⟨g, lv, s, A, c, st, z, h, _⟩ | ⟨g, lv, s, nm, tc, d, st, sn, sc, ds, z, h, _⟩
  · exact ⟨_, _, h⟩
  · exact ⟨_, _, h⟩
theorem res_mono {α : Type} {E : At} {w : World} {r : Option (α × Tok)} {V V' : α → World → Value → Prop} {e : Ending} {w' : World} (h : Res E w r V e w') (hV : ∀ y w v, V y w v → V' y w v) : Res E w r V' e w' := by
  rcases h with ⟨y, t', v, h1, h2, h3, h4⟩ | h
  · exact .inl ⟨y, t', v, h1, h2, hV _ _ _ h3, h4⟩
  · exact .inr h
theorem mu_le (s : ByteArray) (t : Tok) : mu s t ≤ s.size + 1 := by
  unfold mu
  split <;> omega
/-- A text that begins with a brace, and is read to its end or refused. -/
theorem impl_brace (s : ByteArray) (w : World) (N : Nat) (t : Tok) (hpl : Plain s) (hsz : s.size ≤ 100000) (hpos : 0 < s.size) (ht : lxOf s 0 = some t) (hk : t.kind = 12) (hend : ∀ t', mSet (lxOf s) N t = some t' → t'.kind = 1) (hN : s.size + 2 ≤ N) (hN2 : N ≤ 200000) :
    Calls Tryz.prog 5 #[.string s] w fun e w' => Below w.heap.size w w' ∧ ∃ d, e = .returned (.tuple #[d, .bool (mSet (lxOf s) N t).isSome]) := by
  have hp := p_set (lx := lxOf s) N t
  have hle : t.stop ≤ s.size := by
    rcases lx_prog (Nat.zero_le _) ht with ⟨_, h⟩ | ⟨_, _, h⟩
    · omega
    · exact h
  have h := implParse_any s w ((nSet (lxOf s) N t).map fun x => nd 2 emp emp queryT 0 [x.1]) (fun y hy => by
    obtain ⟨x, hx, rfl⟩ := Option.map_eq_some_iff.1 hy
    have h1 := (wt_set N t x hle hx).2.2
    have h2 := mu_le s t
    rw [nd_len]
    simp
    omega) (parse_any s w t _ hpl hsz hpos ht fun E W hE hP hl1 hl2 => by
    subst hE
    have hlt : nu E.s t < N := by have := mu_le E.s t; show mu E.s t < N; omega
    have hI := op_any E W.heap.size ⟨hl1, hl2⟩ N (nSet (lxOf E.s) N) (GSet W.heap.size N N) (st_set N) (set_any E W.heap.size ⟨hl1, hl2⟩ N hN2 N (Nat.le_refl _)) W t hP (Nat.le_refl _) hlt hk
    refine (doc_op E W.heap.size ⟨hl1, hl2⟩ W t _ (GDef W.heap.size N (GSet W.heap.size N N)) (st_def (st_set N)) gdef_face hP (Nat.le_refl _) hk (fun y t' hg => ?_) (hI.mono fun e w' h => res_mono h fun _ _ _ h => .inl h)).mono ?_
    · obtain ⟨x, hx, e⟩ := Option.map_eq_some_iff.1 hg
      refine hend t' ?_
      rw [← hp, hx, ← (Prod.mk.inj e).2]; rfl
    · rintro e w' (⟨y, t', v, hg, rfl, hd, hk⟩ | ⟨hg, ⟨g, rfl⟩, hk⟩)
      · obtain ⟨x, hx, e⟩ := Option.map_eq_some_iff.1 hg
        refine ⟨.inl ⟨y, v, _, N, ?_, rfl, hd⟩, hk⟩
        rw [hx, ← (Prod.mk.inj e).1]; rfl
      · refine ⟨.inr ⟨?_, _, g, rfl⟩, hk⟩
        cases hx : nSet (lxOf E.s) N t with
        | none => rfl
        | some x => rw [hx] at hg; cases hg)
  refine h.mono ?_
  rintro e w' ⟨hb, d, rfl, _⟩
  refine ⟨hb, d, ?_⟩
  rw [← hp]
  cases nSet (lxOf s) N t <;> rfl
/-- A text that is a fragment's head and selections. -/
theorem impl_frag (s : ByteArray) (w : World) (N : Nat) (t t4 : Tok) (nm tc : ByteArray) (hpl : Plain s) (hsz : s.size ≤ 100000) (hpos : 0 < s.size) (ht : lxOf s 0 = some t) (hF : FragAt s t t4 nm tc) (hle : t4.stop ≤ s.size) (hend : ∀ t', mSet (lxOf s) N t4 = some t' → t'.kind = 1) (hN : s.size + 2 ≤ N) (hN2 : N ≤ 200000) :
    Calls Tryz.prog 5 #[.string s] w fun e w' => Below w.heap.size w w' ∧ ∃ d, e = .returned (.tuple #[d, .bool (mSet (lxOf s) N t4).isSome]) := by
  have hp := p_set (lx := lxOf s) N t4
  have hkv : t.kind = 15 ∧ t.value = fragT := by
    obtain ⟨t1, t2, t3, _, _, h1, h2, _⟩ := hF.toks
    exact ⟨h1, h2⟩
  have h := implParse_any s w ((nSet (lxOf s) N t4).map fun x => nd 3 nm emp tc 0 [x.1]) (fun y hy => by
    obtain ⟨x, hx, rfl⟩ := Option.map_eq_some_iff.1 hy
    have h1 := (wt_set N t4 x hle hx).2.2
    have h2 := mu_le s t4
    rw [nd_len]
    simp
    omega) (parse_any s w t _ hpl hsz hpos ht fun E W hE hP hl1 hl2 => by
    subst hE
    have hlt : nu E.s t4 < N := by have := mu_le E.s t4; show mu E.s t4 < N; omega
    have hI : Calls Tryz.prog 20 #[.pointer (some ⟨E.pb, 0, none⟩)] W (Res E W ((nSet (lxOf E.s) N t4).map fun x => (nd 3 nm emp tc 0 [x.1], x.2)) (GFd W.heap.size N (GSet W.heap.size N N))) :=
      sys_any E W.heap.size N W t _ _ hP (Nat.le_refl _) hkv.1 hkv.2 fun w' hP' hl => fragdef_any E W.heap.size ⟨hl1, hl2⟩ N hN2 (nSet (lxOf E.s) N) (GSet W.heap.size N N) (st_set N) (set_any E W.heap.size ⟨hl1, hl2⟩ N hN2 N (Nat.le_refl _)) w' t t4 nm tc hP' hl hlt hF
    refine (doc_sys E W.heap.size ⟨hl1, hl2⟩ W t _ (GDef W.heap.size N (GSet W.heap.size N N)) (st_def (st_set N)) gdef_face hP (Nat.le_refl _) hkv.1 (fun y t' hg => ?_) (hI.mono fun e w' h => res_mono h fun _ _ _ h => .inr h)).mono ?_
    · obtain ⟨x, hx, e⟩ := Option.map_eq_some_iff.1 hg
      refine hend t' ?_
      rw [← hp, hx, ← (Prod.mk.inj e).2]; rfl
    · rintro e w' (⟨y, t', v, hg, rfl, hd, hk⟩ | ⟨hg, ⟨g, rfl⟩, hk⟩)
      · obtain ⟨x, hx, e⟩ := Option.map_eq_some_iff.1 hg
        refine ⟨.inl ⟨y, v, _, N, ?_, rfl, hd⟩, hk⟩
        rw [hx, ← (Prod.mk.inj e).1]; rfl
      · refine ⟨.inr ⟨?_, _, g, rfl⟩, hk⟩
        cases hx : nSet (lxOf E.s) N t4 with
        | none => rfl
        | some x => rw [hx] at hg; cases hg)
  refine h.mono ?_
  rintro e w' ⟨hb, d, rfl, _⟩
  refine ⟨hb, d, ?_⟩
  rw [← hp]
  cases nSet (lxOf s) N t4 <;> rfl
end Go.Proofs.YthbinlnpipgobaaGreatDoor.Inst
namespace Go.Proofs.YthbinlnpipgobaaGreatDoor.Inst
set_option linter.unusedVariables false
set_option linter.unusedSimpArgs false
open Go.RowKit Go.Proofs.YthbinlnpipgobaaGreatDoorW.PrintWords Go.Proofs.YthbinlnpipgobaaGreatDoor.Keep Go.Proofs.YthbinlnpipgobaaGreatDoor.Mod Go.Proofs.YthbinlnpipgobaaGreatDoor.Sim Go.Proofs.YthbinlnpipgobaaGreatDoor.Four Go.Proofs.YthbinlnpipgobaaGreatDoor.Step Go.Proofs.YthbinlnpipgobaaGreatDoor.Env Go.Proofs.YthbinlnpipgobaaGreatDoor.Err Go.Proofs.YthbinlnpipgobaaGreatDoor.Lx Go.Proofs.YthbinlnpipgobaaGreatDoor.Ast Go.Proofs.YthbinlnpipgobaaGreatDoor.New Go.Proofs.YthbinlnpipgobaaGreatDoor.Tree Go.Proofs.YthbinlnpipgobaaGreatDoor.Fuel Go.Proofs.YthbinlnpipgobaaGreatDoor.Par Go.Proofs.YthbinlnpipgobaaGreatDoor.Take

/-- A piece: ASCII without braces, quotation marks and comments. -/
def Pc (a : ByteArray) : Prop := ∀ j : Nat, j < a.size → bt a j < 128 ∧ bt a j ≠ 34 ∧ bt a j ≠ 35 ∧ bt a j ≠ 123 ∧ bt a j ≠ 125
theorem plain_app {x y : ByteArray} (hx : Plain x) (hy : Plain y) : Plain (x ++ y) := fun j hj => by
  rw [bt_app]
  rw [ByteArray.size_append] at hj
  by_cases h : j < x.size
  · rw [if_pos h]; exact hx j h
  · rw [if_neg h]
    exact hy (j - x.size) (by omega)
theorem plain_pc {a : ByteArray} (h : Pc a) : Plain a := fun j hj => ⟨(h j hj).1, (h j hj).2.1, (h j hj).2.2.1⟩
theorem plain_body {pre a post : ByteArray} (h1 : Plain pre) (h : Pc a) (h2 : Plain post) : Plain (body pre a post) :=
  plain_app (plain_app h1 (plain_app (plain_pc h) (by unfold Plain; decide +kernel))) h2
theorem body_eq (pre a post tl : ByteArray) (h : tailT ++ post = tl) : pre ++ a ++ tl = body pre a post := by
  unfold body pieceT
  rw [← h]
  apply ByteArray.ext
  simp [ByteArray.data_append, Array.append_assoc]
theorem some_of {o : Option Tok} {b : Bool} {t : Tok} (h1 : b = true → o = some t) (h2 : b = false → o = none) : o.isSome = b ∧ ∀ t', o = some t' → t' = t := by
  cases b with
  | true => rw [h1 rfl]; exact ⟨rfl, fun t' e => (Option.some.inj e).symm⟩
  | false => rw [h2 rfl]; exact ⟨rfl, fun t' e => by cases e⟩
theorem body1 (a : ByteArray) (hp : Pc a) (hs : a.size ≤ 600) (w : World) : Calls Tryz.prog 5 #[.string (pre1 ++ a ++ ⟨#[10, 125]⟩)] w fun e w' => Below w.heap.size w w' ∧ ∃ d, e = .returned (.tuple #[d, .bool (okP (pieceT a) 1002)]) := by
  rw [body_eq pre1 a post0 _ (by decide +kernel)]
  have hz : (body pre1 a post0).size = 1 + (a.size + 2) + 0 := body_size
  obtain ⟨h1, h2⟩ := some_of (set1 a hp 1002).1 (set1 a hp 1002).2
  rw [← h1]
  exact impl_brace _ w 1003 (brace 0) (plain_body (by unfold Plain; decide +kernel) hp (by unfold Plain; decide +kernel)) (by omega) (by omega) (sign_pre (by decide) (by decide +kernel) (by decide) (by decide +kernel)) rfl (fun t' e => by rw [h2 t' e]; rfl) (by omega) (by omega)
theorem body2 (a : ByteArray) (hp : Pc a) (hs : a.size ≤ 600) (w : World) : Calls Tryz.prog 5 #[.string (pre2 ++ a ++ ⟨#[10, 125, 125]⟩)] w fun e w' => Below w.heap.size w w' ∧ ∃ d, e = .returned (.tuple #[d, .bool (okP (pieceT a) 1002)]) := by
  rw [body_eq pre2 a post2 _ (by decide +kernel)]
  have hz : (body pre2 a post2).size = 3 + (a.size + 2) + 1 := body_size
  obtain ⟨h1, h2⟩ := some_of (set2 a hp 1001).1 (set2 a hp 1001).2
  rw [← h1]
  exact impl_brace _ w 1004 (brace 0) (plain_body (by unfold Plain; decide +kernel) hp (by unfold Plain; decide +kernel)) (by omega) (by omega) (sign_pre (by decide) (by decide +kernel) (by decide) (by decide +kernel)) rfl (fun t' e => by rw [h2 t' e]; rfl) (by omega) (by omega)
theorem body4 (a : ByteArray) (hp : Pc a) (hs : a.size ≤ 600) (w : World) : Calls Tryz.prog 5 #[.string (pre4 ++ a ++ ⟨#[10, 125, 32, 121, 125]⟩)] w fun e w' => Below w.heap.size w w' ∧ ∃ d, e = .returned (.tuple #[d, .bool (okP (pieceT a) 1002)]) := by
  rw [body_eq pre4 a post4 _ (by decide +kernel)]
  have hz : (body pre4 a post4).size = 10 + (a.size + 2) + 3 := body_size
  obtain ⟨h1, h2⟩ := some_of (set4 a hp 1000).1 (set4 a hp 1000).2
  rw [← h1]
  exact impl_brace _ w 1004 (brace 0) (plain_body (by unfold Plain; decide +kernel) hp (by unfold Plain; decide +kernel)) (by omega) (by omega) (sign_pre (by decide) (by decide +kernel) (by decide) (by decide +kernel)) rfl (fun t' e => by rw [h2 t' e]; rfl) (by omega) (by omega)
theorem body3 (a : ByteArray) (hp : Pc a) (hs : a.size ≤ 600) (w : World) : Calls Tryz.prog 5 #[.string (pre3 ++ a ++ ⟨#[10, 125]⟩)] w fun e w' => Below w.heap.size w w' ∧ ∃ d, e = .returned (.tuple #[d, .bool (okP (pieceT a) 1002)]) := by
  rw [body_eq pre3 a post0 _ (by decide +kernel)]
  have hz : (body pre3 a post0).size = 16 + (a.size + 2) + 0 := body_size
  obtain ⟨h1, h2⟩ := some_of (set3 a hp 1002).1 (set3 a hp 1002).2
  rw [← h1]
  have l0 : lxOf (body pre3 a post0) 0 = some ⟨15, 0, 8, pre3.extract 0 8⟩ := name_pre (by decide) (by decide) (by decide) (fun i h1 h2 h3 => by omega) (by decide +kernel) (by decide +kernel) (by decide +kernel)
  have l1 : lxOf (body pre3 a post0) 8 = some ⟨15, 9, 10, pre3.extract 9 10⟩ := name_pre (by decide) (by decide) (by decide) (by decide +kernel) (by decide +kernel) (by decide +kernel) (by decide +kernel)
  have l2 : lxOf (body pre3 a post0) 10 = some ⟨15, 11, 13, pre3.extract 11 13⟩ := name_pre (by decide) (by decide) (by decide) (by decide +kernel) (by decide +kernel) (by decide +kernel) (by decide +kernel)
  have l3 : lxOf (body pre3 a post0) 13 = some ⟨15, 14, 15, pre3.extract 14 15⟩ := name_pre (by decide) (by decide) (by decide) (by decide +kernel) (by decide +kernel) (by decide +kernel) (by decide +kernel)
  have l4 : lxOf (body pre3 a post0) 15 = some (brace 15) := sign_pre (by decide) (by decide +kernel) (by decide) (by decide +kernel)
  have e0 : pre3.extract 0 8 = fragT := bytes_inj (by decide +kernel)
  have e1 : (pre3.extract 9 10).toList ≠ onT.toList := by decide +kernel
  have e2 : pre3.extract 11 13 = onT := bytes_inj (by decide +kernel)
  generalize pre3.extract 0 8 = x0 at *
  generalize pre3.extract 9 10 = x1 at *
  generalize pre3.extract 11 13 = x2 at *
  generalize pre3.extract 14 15 = x3 at *
  have hpl : Plain (body pre3 a post0) := plain_body (by unfold Plain; decide +kernel) hp (by unfold Plain; decide +kernel)
  generalize body pre3 a post0 = s at *
  have n2 : mName (lxOf s) ⟨15, 9, 10, x1⟩ = some ⟨15, 11, 13, x2⟩ := by unfold mName mTok; rw [if_pos rfl]; exact l2
  have n4 : mName (lxOf s) ⟨15, 14, 15, x3⟩ = some (brace 15) := by unfold mName mTok; rw [if_pos rfl]; exact l4
  exact impl_frag s w 1003 ⟨15, 0, 8, x0⟩ (brace 15) x1 x3 hpl (by omega) (by omega) l0 ⟨⟨15, 9, 10, x1⟩, ⟨15, 11, 13, x2⟩, ⟨15, 14, 15, x3⟩, rfl, rfl, rfl, e0, l1, e1, n2, rfl, e2, l3, n4, rfl⟩ (by show 16 ≤ _; omega) (fun t' e => by rw [h2 t' e]; rfl) (by omega) (by omega)
def textX : ByteArray := ⟨#[123, 120, 125]⟩
theorem bodyX (w : World) : Calls Tryz.prog 5 #[.string textX] w fun e w' => Below w.heap.size w w' ∧ ∃ d, e = .returned (.tuple #[d, .bool true]) := by
  have h1 : (mSet (lxOf textX) 10 (brace 0)).map (·.kind) = some 1 := by decide +kernel
  obtain ⟨u, hu, hk⟩ := Option.map_eq_some_iff.1 h1
  have h := impl_brace textX w 10 (brace 0) (by unfold Plain; decide +kernel) (by decide) (by decide) (lx_sign (by decide) (by decide +kernel) (by decide) (by decide +kernel)) rfl (fun t' e => by rw [hu] at e; rw [← Option.some.inj e]; exact hk) (by decide) (by decide)
  rw [hu] at h
  exact h
end Go.Proofs.YthbinlnpipgobaaGreatDoor.Inst
namespace Go.Proofs.YthbinlnpipgobaaGreatDoor.LawP
set_option linter.unusedVariables false
set_option linter.unusedSimpArgs false
open Go.RowKit Go.Proofs.YthbinlnpipgobaaGreatDoorW.PrintWords Go.Proofs.YthbinlnpipgobaaGreatDoorW.PrintLast Go.Proofs.YthbinlnpipgobaaGreatDoor.PFnPieceRefused Go.Proofs.YthbinlnpipgobaaGreatDoor.Keep Go.Proofs.YthbinlnpipgobaaGreatDoor.Four Go.Proofs.YthbinlnpipgobaaGreatDoor.Inst

theorem ascii_l0 (a : ByteArray) (h : a.size ≤ 600) : ∀ (d k : Nat) (i : Int), 0 ≤ i → (a.size : Int) - i ≤ d → d < k → ∃ r, laws_ascii9.l0 k a i = some r ∧ (r = true → ∀ j : Nat, i ≤ j → j < a.size → bt a j < 128) := by
  intro d
  induction d with
  | zero =>
    intro k i h0 hd hk
    obtain ⟨k, rfl⟩ : ∃ m, k = m + 1 := ⟨k - 1, by omega⟩
    simp only [laws_ascii9.l0]
    rw [if_neg (by omega)]
    exact ⟨true, rfl, fun _ j h1 h2 => by omega⟩
  | succ d ih =>
    intro k i h0 hd hk
    obtain ⟨k, rfl⟩ : ∃ m, k = m + 1 := ⟨k - 1, by omega⟩
    simp only [laws_ascii9.l0]
    by_cases hlt : i < (a.size : Int)
    · rw [if_pos hlt, if_pos h0]
      by_cases h8 : bt a i ≥ 128
      · rw [if_pos h8]
        exact ⟨false, rfl, fun h => by cases h⟩
      · rw [if_neg h8, show wrap64 (i + 1) = i + 1 by unfold wrap64; omega]
        obtain ⟨r, e, hr⟩ := ih k (i + 1) (by omega) (by omega) (by omega)
        refine ⟨r, e, fun t j h1 h2 => ?_⟩
        by_cases hj : i = j
        · subst hj; omega
        · exact hr t j (by omega) h2
    · rw [if_neg hlt]
      exact ⟨true, rfl, fun _ j h1 h2 => by omega⟩
theorem piece_ok (a : ByteArray) : ∃ k r, laws_piece9OK.f k a = some r ∧ (r = true → a.size ≤ 600 ∧ ∀ j : Nat, j < a.size → bt a j < 128) := by
  by_cases h : a.size ≤ 600
  · obtain ⟨r, e, hr⟩ := ascii_l0 a h 600 601 0 (by omega) (by omega) (by omega)
    refine ⟨601, r, ?_, fun t => ⟨h, fun j hj => hr t j (by omega) hj⟩⟩
    unfold laws_piece9OK.f laws_ascii9.f
    rw [if_pos (by omega), e]
    rfl
  · refine ⟨0, false, ?_, fun t => by cases t⟩
    unfold laws_piece9OK.f
    rw [if_neg (by omega)]

def Sgn (a : ByteArray) (i : Nat) : Prop := ∀ j : Nat, j < i → bt a j ≠ 34 ∧ bt a j ≠ 35 ∧ bt a j ≠ 123 ∧ bt a j ≠ 125

set_option maxRecDepth 100000 in
set_option maxHeartbeats 4000000 in
theorem law (a : ByteArray) (w : World) (hs : a.size ≤ 140737488351232) :
    Calls Tryz.prog 3 #[.string a] w fun e w' => e = .returned (.bool true) ∧ Below w.heap.size w w' := by
  obtain ⟨k, r, hr, hok⟩ := piece_ok a
  have HR := Aside0.mk hr
  clear hr
  by_cases hbig : 2147483647 < a.size
  · have hb : (2147483647 : Int) < (a.size : Int) := by omega
    go_enter Tryz.func3, Tryz.ntmps3
    go_wp2
    go_ret
    exact ⟨rfl, Below.refl _ _⟩
  · have hb : ¬ (2147483647 : Int) < (a.size : Int) := by omega
    cases r with
    | false =>
      clear hok
      go_enter Tryz.func3, Tryz.ntmps3
      go_wp2_with fail
      refine (laws_piece9OK.calls k a false _ HR.out).mono ?_
      rintro e w' ⟨rfl, ⟨nd, rfl⟩⟩
      go_wp2_with fail
      go_ret
      exact ⟨rfl, pw_below_drewN (Below.refl _ _) _⟩
    | true =>
      obtain ⟨hs6, h128⟩ := hok rfl
      clear hok
      cases he : a.toList.isEmpty with
      | true =>
        go_enter Tryz.func3, Tryz.ntmps3
        go_wp2_with fail
        refine (laws_piece9OK.calls k a true _ HR.out).mono ?_
        rintro e w' ⟨rfl, ⟨nd, rfl⟩⟩
        go_wp2_with fail
        go_ret
        exact ⟨rfl, pw_below_drewN (Below.refl _ _) _⟩
      | false =>
        go_enter Tryz.func3, Tryz.ntmps3
        go_wp2_with fail
        refine (laws_piece9OK.calls k a true _ HR.out).mono ?_
        rintro e w' ⟨rfl, ⟨nd, rfl⟩⟩
        go_wp2_with fail
        have HB := Aside0.mk (pw_below_drewN (Below.refl w.heap.size w) nd)
        have H8 := Aside0.mk h128
        clear h128
        generalize w.drewN nd = w1 at *
        go_loopw [3] (fun v3 wr => ∃ i : Nat, v3 = .int .i64 i ∧ i ≤ a.size ∧ Aside0 (Sgn a i) ∧ wr = w1) (fun v3 _ => a.size - (intOf v3).toNat)
        case atStart => exact ⟨0, rfl, by omega, ⟨fun j h => by omega⟩, rfl⟩
        case round =>
          obtain ⟨i, rfl, hi, HS, rfl⟩ := hrel
          by_cases hlt : (i : Int) < (a.size : Int)
          · have hbt := bt_at a i
            have h0 : (0 : Int) ≤ (i : Int) := by omega
            have hb1 : ((a[i]'(by omega)).toNat : Int) = bt a i := hbt (by simp; omega)
            go_wp2_with fail
            case roundEnd =>
              rename_i q4
              obtain ⟨⟨⟨q1, q2⟩, q3⟩, q5⟩ := q4
              replace q1 := ne_of_beq_false q1
              replace q2 := ne_of_beq_false q2
              replace q3 := ne_of_beq_false q3
              replace q5 := ne_of_beq_false q5
              refine ⟨⟨i + 1, rfl, by omega, ⟨fun j hj => ?_⟩, trivial⟩, by simp [intOf]; omega⟩
              by_cases hji : j = i
              · rw [hji]
                exact ⟨q3, q5, q1, q2⟩
              · exact HS.out j (by omega)
            all_goals
              go_ret
              exact ⟨rfl, HB.out⟩
          · have hp : Pc a := fun j hj => ⟨H8.out j hj, HS.out j (by omega)⟩
            have B1 := Aside0.mk (fun W => show Calls Tryz.prog 5 #[.string ((⟨#[123]⟩ : ByteArray) ++ a ++ ⟨#[10, 125]⟩)] W fun e w' => Below W.heap.size W w' ∧ ∃ d, e = .returned (.tuple #[d, .bool (okP (pieceT a) 1002)]) from body1 a hp hs6 W)
            have B2 := Aside0.mk (fun W => show Calls Tryz.prog 5 #[.string ((⟨#[123, 120, 123]⟩ : ByteArray) ++ a ++ ⟨#[10, 125, 125]⟩)] W fun e w' => Below W.heap.size W w' ∧ ∃ d, e = .returned (.tuple #[d, .bool (okP (pieceT a) 1002)]) from body2 a hp hs6 W)
            have B3 := Aside0.mk (fun W => show Calls Tryz.prog 5 #[.string ((⟨#[102, 114, 97, 103, 109, 101, 110, 116, 32, 70, 32, 111, 110, 32, 84, 123]⟩ : ByteArray) ++ a ++ ⟨#[10, 125]⟩)] W fun e w' => Below W.heap.size W w' ∧ ∃ d, e = .returned (.tuple #[d, .bool (okP (pieceT a) 1002)]) from body3 a hp hs6 W)
            have B4 := Aside0.mk (fun W => show Calls Tryz.prog 5 #[.string ((⟨#[123, 46, 46, 46, 32, 111, 110, 32, 84, 123]⟩ : ByteArray) ++ a ++ ⟨#[10, 125, 32, 121, 125]⟩)] W fun e w' => Below W.heap.size W w' ∧ ∃ d, e = .returned (.tuple #[d, .bool (okP (pieceT a) 1002)]) from body4 a hp hs6 W)
            have BX := Aside0.mk (fun W => show Calls Tryz.prog 5 #[.string ⟨#[123, 120, 125]⟩] W fun e w' => Below W.heap.size W w' ∧ ∃ d, e = .returned (.tuple #[d, .bool true]) from bodyX W)
            clear hp H8 HS
            generalize okP (pieceT a) 1002 = r at *
            go_wp2_with fail
            refine (B1.out _).mono ?_
            rintro e w1 ⟨hb1, d1, rfl⟩
            go_wp2_with fail
            refine (B2.out _).mono ?_
            rintro e w2 ⟨hb2, d2, rfl⟩
            go_wp2_with fail
            refine (B3.out _).mono ?_
            rintro e w3 ⟨hb3, d3, rfl⟩
            go_wp2_with fail
            refine (B4.out _).mono ?_
            rintro e w4 ⟨hb4, d4, rfl⟩
            go_wp2_with fail
            refine (BX.out _).mono ?_
            rintro e wX ⟨hbX, dX, rfl⟩
            go_wp2_with fail
            go_ret
            have h1 := HB.out.trans (hb1.mono HB.out.size)
            have h2 := h1.trans (hb2.mono h1.size)
            have h3 := h2.trans (hb3.mono h2.size)
            have h4 := h3.trans (hb4.mono h3.size)
            exact ⟨rfl, h4.trans (hbX.mono h4.size)⟩
end Go.Proofs.YthbinlnpipgobaaGreatDoor.LawP
