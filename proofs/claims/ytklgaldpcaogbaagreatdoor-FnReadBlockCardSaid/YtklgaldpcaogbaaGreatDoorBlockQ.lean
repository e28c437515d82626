import Derived.Test.YtklgaldpcaogbaaGreatDoorBlockP
namespace Go.Proofs.YtklgaldpcaogbaaGreatDoor.LinesP
open Go.RowKit Go.Proofs.YtklgaldpcaogbaaGreatDoorW.PrintWords Go.Proofs.YtklgaldpcaogbaaGreatDoorW.PrintLast Go.Proofs.YtklgaldpcaogbaaGreatDoorW.PrintMore

/-- The code's smallest indent: it stops at 0. -/
def icommonGo (l : List ByteArray) : Nat → Int → Nat → Int
  | 0, o, _ => o
  | d + 1, o, i =>
    let x := rdOf ByteArray.empty l i
    if lead x < x.size ∧ (o = -1 ∨ (lead x : Int) < o) then (if lead x = 0 then 0 else icommonGo l d (lead x) (i + 1)) else icommonGo l d o (i + 1)
theorem common_zero (l : List ByteArray) : ∀ d i, commonGo l d 0 i = 0 := by
  intro d
  induction d with
  | zero => intro i; rfl
  | succ d ih =>
    intro i
    simp only [commonGo]
    rw [if_neg (by omega)]
    exact ih _
theorem icommon_eq (l : List ByteArray) : ∀ d o i, (o = -1 ∨ 0 ≤ o) → icommonGo l d o i = commonGo l d o i := by
  intro d
  induction d with
  | zero => intros; rfl
  | succ d ih =>
    intro o i ho
    simp only [icommonGo, commonGo]
    by_cases e : lead (rdOf ByteArray.empty l i) < (rdOf ByteArray.empty l i).size ∧ (o = -1 ∨ (lead (rdOf ByteArray.empty l i) : Int) < o)
    · have e' : lead (rdOf ByteArray.empty l i) < (rdOf ByteArray.empty l i).size ∧ (o < 0 ∨ (lead (rdOf ByteArray.empty l i) : Int) < o) := ⟨e.1, by omega⟩
      rw [if_pos e, if_pos e']
      by_cases z : lead (rdOf ByteArray.empty l i) = 0
      · rw [if_pos z, z]; exact (common_zero _ _ _).symm
      · rw [if_neg z]; exact ih _ _ (by omega)
    · rw [if_neg e, if_neg (fun h => e ⟨h.1, by omega⟩)]; exact ih _ _ ho

theorem rdOf_some {l : List ByteArray} {i : Nat} {x : ByteArray} (h : l[i]? = some x) : rdOf ByteArray.empty l i = x := by
  unfold rdOf
  rw [List.getD_eq_getElem?_getD, Int.toNat_natCast, h]; rfl

/-- The code's cut of a line. -/
def icutLine (c : Int) (x : ByteArray) : ByteArray := if (x.size : Int) < c then x else x.extract c.toNat x.size
def istripGo (c : Int) : Nat → Nat → List ByteArray → List ByteArray
  | 0, _, l => l
  | d + 1, i, l => istripGo c d (i + 1) (l.set i (icutLine c (rdOf ByteArray.empty l i)))
theorem strip_get (c : Int) : ∀ d i l j, i + d ≤ l.length → (stripGo c d i l)[j]? = if i ≤ j ∧ j < i + d then (l[j]?).map (cutLine c) else l[j]? := by
  intro d
  induction d with
  | zero => intro i l j _; simp only [stripGo]; rw [if_neg (by omega)]
  | succ d ih =>
    intro i l j h
    simp only [stripGo]
    rw [ih (i + 1) _ j (by rw [List.length_set]; omega), List.getElem?_set]
    by_cases e : i = j
    · subst e
      rw [if_neg (by omega), if_pos rfl, if_pos (by omega), if_pos (by omega), List.getElem?_eq_getElem (by omega), rdOf_some (List.getElem?_eq_getElem (by omega))]
      rfl
    · rw [if_neg e]
      by_cases e2 : i + 1 ≤ j ∧ j < i + 1 + d
      · rw [if_pos e2, if_pos (by omega)]
      · rw [if_neg e2, if_neg (by omega)]
theorem istrip_get (c : Int) : ∀ d i l j, i + d ≤ l.length → (istripGo c d i l)[j]? = if i ≤ j ∧ j < i + d then (l[j]?).map (icutLine c) else l[j]? := by
  intro d
  induction d with
  | zero => intro i l j _; simp only [istripGo]; rw [if_neg (by omega)]
  | succ d ih =>
    intro i l j h
    simp only [istripGo]
    rw [ih (i + 1) _ j (by rw [List.length_set]; omega), List.getElem?_set]
    by_cases e : i = j
    · subst e
      rw [if_neg (by omega), if_pos rfl, if_pos (by omega), if_pos (by omega), List.getElem?_eq_getElem (by omega), rdOf_some (List.getElem?_eq_getElem (by omega))]
      rfl
    · rw [if_neg e]
      by_cases e2 : i + 1 ≤ j ∧ j < i + 1 + d
      · rw [if_pos e2, if_pos (by omega)]
      · rw [if_neg e2, if_neg (by omega)]

theorem leadGo_all (s : ByteArray) : ∀ d i, leadGo s d i = i + d ↔ ∀ j : Nat, i ≤ j → j < i + d → (bt s j = 32 ∨ bt s j = 9) := by
  intro d
  induction d with
  | zero => intro i; simp only [leadGo]; exact ⟨fun _ j h1 h2 => by omega, fun _ => rfl⟩
  | succ d ih =>
    intro i
    simp only [leadGo]
    by_cases e : bt s i = 32 ∨ bt s i = 9
    · rw [if_pos e, show i + (d + 1) = (i + 1) + d by omega, ih (i + 1)]
      constructor
      · intro h j h1 h2
        rcases Nat.lt_or_ge i j with h3 | h3
        · exact h j h3 h2
        · obtain rfl : j = i := by omega
          exact e
      · intro h j h1 h2
        exact h j (by omega) h2
    · rw [if_neg e]
      constructor
      · intro h; omega
      · intro h; exact absurd (h i (Nat.le_refl _) (by omega)) e
theorem lead_all (s : ByteArray) : lead s = s.size ↔ ∀ j : Nat, j < s.size → (bt s j = 32 ∨ bt s j = 9) := by
  have := leadGo_all s s.size 0
  simp only [Nat.zero_add, Nat.zero_le, forall_const] at this
  exact this
theorem bt_natQ (s : ByteArray) (p : Nat) (h : p < s.size) : bt s p = ((s[p]'h).toNat : Int) := by simp [bt, h]
theorem bt_extract (s : ByteArray) (a b j : Nat) (hj : j < (s.extract a b).size) : bt (s.extract a b) j = bt s (a + j : Nat) := by
  have h := hj
  rw [ByteArray.size_extract] at h
  have := ByteArray.getElem_extract (b := s) (start := a) (stop := b) (i := j) hj
  rw [bt_natQ _ _ hj, bt_natQ s (a + j) (by omega), this]
theorem blank_cut (x : ByteArray) (a : Nat) (h : lead x = x.size) : lead (x.extract a x.size) = (x.extract a x.size).size := by
  rw [lead_all] at h ⊢
  intro j hj
  rw [bt_extract _ _ _ _ hj]
  rw [ByteArray.size_extract] at hj
  exact h _ (by omega)

theorem common_le (l : List ByteArray) : ∀ d o i, (0 ≤ o → commonGo l d o i ≤ o) ∧ ∀ j : Nat, i ≤ j → j < i + d → lead (rdOf ByteArray.empty l j) < (rdOf ByteArray.empty l j).size → commonGo l d o i ≤ lead (rdOf ByteArray.empty l j) := by
  intro d
  induction d with
  | zero => intro o i; exact ⟨fun _ => Int.le_refl _, fun j h1 h2 => by omega⟩
  | succ d ih =>
    intro o i
    simp only [commonGo]
    by_cases e : lead (rdOf ByteArray.empty l i) < (rdOf ByteArray.empty l i).size ∧ (o < 0 ∨ (lead (rdOf ByteArray.empty l i) : Int) < o)
    · rw [if_pos e]
      obtain ⟨h1, h2⟩ := ih (lead (rdOf ByteArray.empty l i)) (i + 1)
      have h1 := h1 (by omega)
      refine ⟨fun ho => by omega, fun j j1 j2 hj => ?_⟩
      rcases Nat.lt_or_ge i j with h3 | h3
      · exact h2 j h3 (by omega) hj
      · obtain rfl : j = i := by omega
        exact h1
    · rw [if_neg e]
      obtain ⟨h1, h2⟩ := ih o (i + 1)
      refine ⟨h1, fun j j1 j2 hj => ?_⟩
      rcases Nat.lt_or_ge i j with h3 | h3
      · exact h2 j h3 (by omega) hj
      · obtain rfl : j = i := by omega
        have h4 : ¬ (o < 0 ∨ (lead (rdOf ByteArray.empty l j) : Int) < o) := fun h => e ⟨hj, h⟩
        have := h1 (by omega)
        omega
theorem plain_all (l : List ByteArray) (n : Int) : ∀ d i, plainGo l n d i = true → ∀ j : Nat, i ≤ j → j < i + d → ¬ (lead (rdOf ByteArray.empty l j) = (rdOf ByteArray.empty l j).size ∧ 0 < (rdOf ByteArray.empty l j).size ∧ ((rdOf ByteArray.empty l j).size : Int) < n) := by
  intro d
  induction d with
  | zero => intro i _ j h1 h2; omega
  | succ d ih =>
    intro i h j h1 h2
    simp only [plainGo] at h
    by_cases e : lead (rdOf ByteArray.empty l i) = (rdOf ByteArray.empty l i).size ∧ 0 < (rdOf ByteArray.empty l i).size ∧ ((rdOf ByteArray.empty l i).size : Int) < n
    · rw [if_pos e] at h; cases h
    · rw [if_neg e] at h
      rcases Nat.lt_or_ge i j with h3 | h3
      · exact ih (i + 1) h j h3 (by omega)
      · obtain rfl : j = i := by omega
        exact e

/-- The code's lines without the white space in front. -/
def stripI (l : List ByteArray) : List ByteArray := if 0 < commonN l then istripGo (commonN l) l.length 0 l else l
def valueI (l : List ByteArray) : ByteArray :=
  let m := dropHead (stripI l)
  joinL (dropTail m.length m)

theorem cut_zero (x : ByteArray) : cutLine 0 x = x := by
  unfold cutLine mn
  rw [if_neg (by omega)]
  apply ByteArray.ext; simp
theorem strip_zero (l : List ByteArray) (h : 0 < l.length) : stripGo 0 (l.length - 1) 1 l = l := by
  apply List.ext_getElem?
  intro j
  rw [strip_get 0 _ _ _ _ (by omega)]
  split
  · rw [show (cutLine 0) = id from funext cut_zero, Option.map_id]; rfl
  · rfl

theorem drop_eq {l : List ByteArray} (h : 0 < l.length) (hp : plainL l = true) : dropHead (stripI l) = dropHead (stripGo (mx (commonN l) 0) (l.length - 1) 1 l) := by
  unfold stripI
  by_cases hc : 0 < commonN l
  · have hm : mx (commonN l) 0 = commonN l := by unfold mx; split <;> omega
    unfold plainL at hp
    rw [hm] at hp ⊢
    rw [if_pos hc]
    have hb : lead (rdOf ByteArray.empty l 0) = (rdOf ByteArray.empty l 0).size := by
      by_cases e : lead (rdOf ByteArray.empty l 0) < (rdOf ByteArray.empty l 0).size
      · rw [if_pos ⟨hc, e⟩] at hp; cases hp
      · have := lead_le (rdOf ByteArray.empty l 0); omega
    rw [if_neg (fun hh => by omega)] at hp
    have hpl := plain_all l _ _ _ hp
    have hcl := (common_le l (l.length - 1) (-1) 1).2
    change ∀ j : Nat, _ → _ → _ → commonN l ≤ _ at hcl
    have hlen1 : (istripGo (commonN l) l.length 0 l).tail = (stripGo (commonN l) (l.length - 1) 1 l).tail := by
      apply List.ext_getElem?
      intro j
      rw [List.getElem?_tail, List.getElem?_tail, istrip_get _ _ _ _ _ (by omega), strip_get _ _ _ _ _ (by omega)]
      by_cases hj : j + 1 < l.length
      · rw [if_pos (by omega), if_pos (by omega), List.getElem?_eq_getElem hj]
        simp only [Option.map_some]
        have hr : rdOf ByteArray.empty l (j + 1 : Nat) = l[j + 1] := rdOf_some (List.getElem?_eq_getElem hj)
        have k1 := hpl (j + 1) (by omega) (by omega)
        have k2 := hcl (j + 1) (by omega) (by omega)
        rw [hr] at k1 k2
        generalize l[j + 1] = x at *
        have k3 := lead_le x
        congr 1
        unfold icutLine cutLine mn
        by_cases e : (x.size : Int) < commonN l
        · have e2 : x.size = 0 := by
            rcases Nat.lt_or_ge (lead x) x.size with h1 | h1
            · have := k2 h1; omega
            · rcases Nat.eq_zero_or_pos x.size with h2 | h2
              · exact h2
              · exact absurd ⟨by omega, h2, e⟩ k1
          have e3 : x = ByteArray.empty := ByteArray.ext (Array.eq_empty_of_size_eq_zero e2)
          rw [if_pos e, if_pos e, e3]
          apply ByteArray.ext; simp
        · rw [if_neg e, if_neg e]
      · rw [if_neg (by omega), if_neg (by omega)]
    obtain ⟨x0, xs, rfl⟩ : ∃ x xs, l = x :: xs := by
      cases l with
      | nil => simp at h
      | cons x xs => exact ⟨x, xs, rfl⟩
    have hb : lead x0 = x0.size := hb
    have g1 := istrip_get (commonN (x0 :: xs)) (x0 :: xs).length 0 (x0 :: xs) 0 (by omega)
    have g2 := strip_get (commonN (x0 :: xs)) ((x0 :: xs).length - 1) 1 (x0 :: xs) 0 (by simp only [List.length_cons]; omega)
    rw [if_pos (by simp)] at g1
    rw [if_neg (by omega)] at g2
    simp only [List.getElem?_cons_zero, Option.map_some] at g1 g2
    generalize istripGo (commonN (x0 :: xs)) (x0 :: xs).length 0 (x0 :: xs) = A at *
    generalize stripGo (commonN (x0 :: xs)) ((x0 :: xs).length - 1) 1 (x0 :: xs) = B at *
    cases A with
    | nil => simp at g1
    | cons a A =>
      cases B with
      | nil => simp at g2
      | cons b B =>
        simp only [List.getElem?_cons_zero, Option.some.injEq] at g1 g2
        simp only [List.tail_cons] at hlen1
        subst g1 g2 hlen1
        simp only [dropHead]
        rw [if_pos hb, if_pos]
        unfold icutLine
        split
        · exact hb
        · exact blank_cut _ _ hb
  · have hm : mx (commonN l) 0 = 0 := by unfold mx; split <;> omega
    rw [if_neg hc, hm, strip_zero l h]

theorem value_eq {l : List ByteArray} (h : 0 < l.length) (hp : plainL l = true) : valueI l = valueL l := by
  unfold valueI valueL
  rw [drop_eq h hp]
end Go.Proofs.YtklgaldpcaogbaaGreatDoor.LinesP
