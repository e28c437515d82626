import Derived.Test.YtklgaldpcaogbaaGreatDoorBlockQ
import Derived.Test.YtklgaldpcaogbaaGreatDoorMem
namespace Go.Proofs.YtklgaldpcaogbaaGreatDoor.SRowP
set_option linter.unusedVariables false
set_option linter.unusedSimpArgs false
open Go.RowKit Go.Proofs.YtklgaldpcaogbaaGreatDoor.Mem Go.Proofs.YtklgaldpcaogbaaGreatDoor.LinesP Go.Proofs.YtklgaldpcaogbaaGreatDoorW.PrintWords Go.Proofs.YtklgaldpcaogbaaGreatDoorW.PrintLast Go.Proofs.YtklgaldpcaogbaaGreatDoorW.PrintMore

/-- Strings in a row of their own (block g), from a place on. -/
def SRow (w : World) (g o : Nat) (xs : List ByteArray) : Prop :=
  ∃ cur : Array Value, Blk w g 9 cur ∧ o + xs.length ≤ cur.size ∧ ∀ (j : Nat) x, xs[j]? = some x → cur[o + j]? = some (.string x)
section
variable {w w' : World} {g o : Nat} {xs : List ByteArray}
theorem SRow.lt (h : SRow w g o xs) : g < w.heap.size := by obtain ⟨cur, hb, _⟩ := h; exact Blk.lt hb
theorem SRow.frozen (h : SRow w g o xs) (j : Nat) : w.frozen? ⟨g, j, none⟩ = false := by obtain ⟨cur, hb, _⟩ := h; exact Blk.frozen hb j
theorem SRow.cell (h : SRow w g o xs) {j : Nat} {x : ByteArray} (hx : xs[j]? = some x) : w.cell? ⟨g, o + j, none⟩ = some (.string x) := by
  obtain ⟨cur, hb, _, hc⟩ := h
  rw [Blk.cell hb]; exact hc j x hx
theorem SRow.below {B : Nat} (h : SRow w g o xs) (hb : Below B w w') (hg : g < B) : SRow w' g o xs := by
  obtain ⟨cur, hk, r⟩ := h
  exact ⟨cur, Blk.below hk hb hg, r⟩
theorem SRow.below' (h : SRow w g o xs) (hb : Below w.heap.size w w') : SRow w' g o xs := h.below hb h.lt
theorem SRow.drew (h : SRow w g o xs) : SRow w.drew g o xs := h
theorem SRow.set_ (h : SRow w g o xs) (i : Nat) (y : ByteArray) : SRow (w.setCell ⟨g, o + i, none⟩ (.string y)) g o (xs.set i y) := by
  obtain ⟨cur, hb, hl, hc⟩ := h
  refine ⟨_, Blk.set_ hb (o + i) _, by rw [List.length_set, Array.size_setIfInBounds]; exact hl, ?_⟩
  intro j x hx
  rw [Array.getElem?_setIfInBounds]
  rw [List.getElem?_set] at hx
  by_cases e : i = j
  · subst e
    rw [if_pos rfl] at hx ⊢
    by_cases h2 : i < xs.length
    · rw [if_pos h2] at hx
      rw [if_pos (by omega)]
      rw [Option.some.inj hx]
    · rw [if_neg h2] at hx; cases hx
  · rw [if_neg e] at hx
    rw [if_neg (by omega)]
    exact hc j x hx
theorem SRow.drop1 {x : ByteArray} (h : SRow w g o (x :: xs)) : SRow w g (o + 1) xs := by
  obtain ⟨cur, hb, hl, hc⟩ := h
  simp only [List.length_cons] at hl
  refine ⟨cur, hb, by omega, fun j y hy => ?_⟩
  rw [show o + 1 + j = o + (j + 1) by omega]
  exact hc (j + 1) y (by simpa using hy)
theorem SRow.take (h : SRow w g o xs) (n : Nat) : SRow w g o (xs.take n) := by
  obtain ⟨cur, hb, hl, hc⟩ := h
  refine ⟨cur, hb, by rw [List.length_take]; omega, fun j y hy => ?_⟩
  rw [List.getElem?_take] at hy
  split at hy
  · exact hc j y hy
  · cases hy
theorem SRow.nil_ {o' : Nat} (h : SRow w g o xs) (ho : o' ≤ o) : SRow w g o' [] := by
  obtain ⟨cur, hb, hl, hc⟩ := h
  exact ⟨cur, hb, by simp; omega, fun j y hy => by simp at hy⟩
end

theorem srow_of_R {w : World} {base : Nat} {ok : Nat → Prop} {v : Value} {xs : List ByteArray} (h : Kd.R Kd.string 9 w base ok v xs) (hn : 0 < xs.length) :
    ∃ g cap, v = .slice (some ⟨g, 0, none⟩) xs.length cap ∧ base ≤ g ∧ xs.length ≤ cap ∧ SRow w g 0 xs := by
  obtain ⟨inner, ho⟩ := Kd.R_own h
  obtain ⟨A, c, he, hle, hC⟩ := Kd.R_reads h
  obtain ⟨hil, h2⟩ := ho
  rcases h2 with ⟨_, h0⟩ | ⟨g, cap, cur, rfl, hg, hh, hcap, hr⟩
  · omega
  · injection he with e1 e2 e3
    subst e1 e3
    refine ⟨g, cap, rfl, hg, hle, cur, hh, ?_, ?_⟩
    · have h1 : Kd.string.sz = 1 := rfl
      have h2 := hr.2.1
      rw [h1] at h2
      omega
    · intro j x hx
      have hj : j < xs.length := (List.getElem?_eq_some_iff.1 hx).1
      obtain ⟨ad, ha, hcell⟩ := Kd.at_string hC j (by omega) (by omega)
      injection ha with ha
      subst ha
      rw [Int.toNat_natCast, add_plain, Blk.cell (t := 9) (cs := cur) hh, rdOf_some hx] at hcell
      rw [Nat.zero_add]
      exact hcell
end Go.Proofs.YtklgaldpcaogbaaGreatDoor.SRowP
