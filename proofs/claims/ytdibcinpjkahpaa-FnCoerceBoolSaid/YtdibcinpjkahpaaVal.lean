import Derived.Test.YtdibcinpjkahpaaFlo
namespace Go.Proofs.Ytdibcinpjkahpaa.Val
set_option linter.unusedVariables false
set_option linter.unusedSimpArgs false
open Go.RowKit Go.Proofs.YtdibcinpjkahpaaW.PrintWords Go.Proofs.Ytdibcinpjkahpaa.Flo
attribute [local go_sem] run_store_float

/-- A node of a value: its kind, number (the float's bits), text, and size. -/
structure V where
  kind : Int
  num : Nat
  text : ByteArray
  size : Int
def V.agg (v : V) : Value := .agg #[.int .i64 v.kind, .float .f64 v.num, .string v.text, .int .i64 v.size]
/-- The nodes in a row, from a cell on. -/
def VRow (w : World) (bk o : Nat) (vs : List V) : Prop :=
  ∀ (j : Nat) v, vs[j]? = some v → w.cell? ⟨bk, o + j * 4, none⟩ = some (.int .i64 v.kind) ∧ w.cell? ⟨bk, o + j * 4 + 1, none⟩ = some (.float .f64 v.num) ∧ w.cell? ⟨bk, o + j * 4 + 2, none⟩ = some (.string v.text) ∧ w.cell? ⟨bk, o + j * 4 + 3, none⟩ = some (.int .i64 v.size)
section
variable {w w' : World} {bk o : Nat} {vs : List V}
theorem VRow.below (h : VRow w bk o vs) (hb : Below w.heap.size w w') : VRow w' bk o vs := fun j v hj =>
  have ⟨h0, h1, h2, h3⟩ := h j v hj
  ⟨pw_cell_below hb h0, pw_cell_below hb h1, pw_cell_below hb h2, pw_cell_below hb h3⟩
theorem VRow.below_le {B : Nat} (h : VRow w bk o vs) (hb : Below B w w') (hB : w.heap.size ≤ B) : VRow w' bk o vs := h.below (hb.mono hB)
theorem VRow.part (h : VRow w bk o vs) (k n : Nat) : VRow w bk (o + k * 4) ((vs.drop k).take n) := fun j v hj => by
  rw [List.getElem?_take] at hj
  split at hj
  · rw [List.getElem?_drop] at hj
    have := h (k + j) v hj
    rw [show o + (k + j) * 4 = o + k * 4 + j * 4 by omega] at this
    exact this
  · cases hj
end

theorem below_one {w w1 : World} {o : Obj} (hb : Below (w.alloc o).heap.size (w.alloc o) w1) : Below w.heap.size w w1 :=
  ((Below.refl w.heap.size w).alloc (Nat.le_refl _) o).trans (hb.mono (by simp))
def num7 (v : V) : Nat := if v.kind = 4 ∨ v.kind = 5 then v.num else if v.kind = 2 then 4607182418800017408 else 0
def is7 (v : V) : Bool := decide (v.kind = 4 ∨ v.kind = 5 ∨ v.kind = 2 ∨ v.kind = 3)
set_option maxHeartbeats 1000000 in
theorem number7_any (bk o n c : Nat) (v : V) (w : World) (hn : 0 < n) (h0 : w.cell? ⟨bk, o, none⟩ = some (.int .i64 v.kind)) (h1 : w.cell? ⟨bk, o + 1, none⟩ = some (.float .f64 v.num)) :
    Calls Try.prog 6 #[.slice (some ⟨bk, o, none⟩) n c] w fun e w' => e = .returned (.tuple #[.float .f64 (num7 v), .bool (is7 v)]) ∧ w = w' := by
  have hni : (0 : Int) < (n : Int) := by omega
  obtain ⟨kind, num, text, size⟩ := v
  unfold num7 is7
  simp only at h0 h1 ⊢
  by_cases hk : kind = 4
  · subst hk
    go_enter Try.func6, Try.ntmps6
    go_wp2_with fail
    go_ret2
    exact ⟨by simp, rfl⟩
  · by_cases hk5 : kind = 5
    · subst hk5
      go_enter Try.func6, Try.ntmps6
      go_wp2_with fail
      go_ret2
      exact ⟨by simp, rfl⟩
    · by_cases hk2 : kind = 2
      · subst hk2
        go_enter Try.func6, Try.ntmps6
        go_wp2_with fail
        go_ret2
        exact ⟨by simp, rfl⟩
      · by_cases hk3 : kind = 3
        · subst hk3
          go_enter Try.func6, Try.ntmps6
          go_wp2_with fail
          go_ret2
          exact ⟨by simp, rfl⟩
        · have f4 : (kind == 4) = false := beq_eq_false_iff_ne.2 hk
          have f5 : (kind == 5) = false := beq_eq_false_iff_ne.2 hk5
          have f2 : (kind == 2) = false := beq_eq_false_iff_ne.2 hk2
          have f3 : (kind == 3) = false := beq_eq_false_iff_ne.2 hk3
          go_enter Try.func6, Try.ntmps6
          go_wp2_with fail
          go_ret2
          exact ⟨by simp [hk, hk5, hk2, hk3], rfl⟩

set_option maxHeartbeats 1000000 in
theorem fits5_any (v : V) (w : World) : Calls Try.prog 10 #[v.agg] w fun e w' => e = .returned (.bool (decide (v.text.size ≤ 2147483647))) ∧ Below w.heap.size w w' := by
  unfold V.agg
  by_cases h : (v.text.size : Int) ≤ 2147483647
  · go_enter Try.func10, Try.ntmps10
    go_wp2_with fail
    go_ret
    exact ⟨by simp; omega, below_alloc (Below.refl _ _) _⟩
  · go_enter Try.func10, Try.ntmps10
    go_wp2_with fail
    go_ret
    exact ⟨by simp; omega, below_alloc (Below.refl _ _) _⟩

/-- It answers true or false; nothing below is changed. -/
def SomeBool (w : World) (e : Ending) (w' : World) : Prop := ∃ b, e = .returned (.bool b) ∧ Below w.heap.size w w'
set_option maxRecDepth 100000 in
set_option maxHeartbeats 2000000 in
theorem fits4_any (bk o c : Nat) (vs : List V) (w : World) (hV : VRow w bk o vs) (hn : vs.length ≤ 140737488351232) :
    Calls Try.prog 4 #[.slice (some ⟨bk, o, none⟩) vs.length c] w fun e w' => SomeBool w e w' := by
  have HV := Aside0.mk hV
  clear hV
  go_enter Try.func4, Try.ntmps4
  by_cases h : (vs.length : Int) ≤ 2147483647
  · go_wp2_with fail
    go_loopw [10] (fun v10 wr => ∃ i : Nat, v10 = .int .i64 i ∧ i ≤ vs.length ∧ Aside0 (Below w.heap.size w wr)) (fun v10 _ => vs.length - (intOf v10).toNat)
    case atStart => exact ⟨0, rfl, by omega, ⟨Below.refl _ _⟩⟩
    case round =>
      obtain ⟨i, rfl, hi, HB⟩ := hrel
      by_cases hlt : i < vs.length
      · have hlti : (i : Int) < (vs.length : Int) := by omega
        obtain ⟨v, hv⟩ : ∃ v, vs[i]? = some v := ⟨_, List.getElem?_eq_getElem hlt⟩
        obtain ⟨c0, c1, c2, c3⟩ := (HV.out.below HB.out) i v hv
        have HF := Aside0.mk (fun W => fits5_any v W)
        unfold V.agg at HF
        generalize decide (v.text.size ≤ 2147483647) = b at HF
        clear hv
        go_wp2_with fail
        refine (HF.out _).mono ?_
        rintro e w2 ⟨rfl, hb2⟩
        have hB2 := HB.out.trans ((below_one hb2).mono HB.out.size)
        cases b with
        | true =>
          go_wp2_with fail
          exact ⟨⟨i + 1, by go_num, by omega, ⟨hB2⟩⟩, by simp [intOf]; omega⟩
        | false =>
          go_wp2_with fail
          go_ret
          exact ⟨_, rfl, hB2⟩
      · have hlti : (vs.length : Int) ≤ (i : Int) := by omega
        go_wp2_with fail
        go_ret
        exact ⟨_, rfl, HB.out⟩
  · go_wp2_with fail
    go_ret
    exact ⟨_, rfl, Below.refl _ _⟩
end Go.Proofs.Ytdibcinpjkahpaa.Val
