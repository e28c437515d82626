import Derived.Test.YtjoagdldbmlenaaGreatDoorVE1
import Derived.Test.YtjoagdldbmlenaaGreatDoorVE2
import Derived.Test.YtjoagdldbmlenaaGreatDoorVE3
import Derived.Test.YtjoagdldbmlenaaGreatDoorVE4
import Derived.Test.YtjoagdldbmlenaaGreatDoorVE5
set_option maxRecDepth 100000
set_option maxHeartbeats 8000000
set_option linter.unusedVariables false
set_option linter.unusedSimpArgs false
namespace Go.Proofs.YtjoagdldbmlenaaGreatDoor.Rp
open Go.RowKit Go.Proofs.YtjoagdldbmlenaaGreatDoorW.PrintWords Go.Proofs.YtjoagdldbmlenaaGreatDoorW.PrintLast PFnReadDirectives Go.Proofs.YtjoagdldbmlenaaGreatDoor.Mod Tree Rel
theorem ba_list {v : ByteArray} {l : List UInt8} (h : v.toList = l) : v = ⟨l.toArray⟩ := by
 rw [Go.Lib.toList_data] at h
 exact ByteArray.ext (Array.toList_inj.1 (by simpa using h))
theorem here_any (cst : Bool) (L : List Tok) (i : Nat) (d wr : Int) (g : Nat) (w0 w : World) (hL : L.length ≤ 2000) (hi : i ≤ L.length)
  (HV : ∀ (j : Nat) (wr2 : Int) (wx : World), j ≤ L.length → IsS45 w0 wx g (L.map sT) j d wr2 false false → Below w0.heap.size w0 wx → Calls Tryz.prog 14 #[.pointer (some ⟨g, 0, none⟩), .bool cst] wx (VPost cst L j d g w0 wx))
  (HI : IsS45 w0 w g (L.map sT) i d wr false false) (HB : Below w0.heap.size w0 w) :
  Calls Tryz.prog 34 #[.pointer (some ⟨g, 0, none⟩), .bool cst] w (VPost cst L i d g w0 w) := by
 cases ht : L.drop i with
 | nil => exact here_end cst L i d wr g w0 w hL hi ht HI HB
 | cons t r =>
  by_cases h3 : t.kind = 3
  ·cases cst with
   | true => exact here_dollar true L i d wr g w0 w hL t r ht h3 rfl HI HB
   | false =>
    cases r with
    | nil => exact here_vno false L i d wr g w0 w hL t [] ht h3 rfl (by decide) HI HB
    | cons t2 r2 =>
     by_cases hk2 : t2.kind = 15
     ·exact here_var false L i d wr g w0 w hL t _ ht h3 rfl t2 r2 rfl hk2 HI HB
     ·exact here_vno false L i d wr g w0 w hL t _ ht h3 rfl hk2 HI HB
  by_cases h10 : t.kind = 10
  ·exact here_list cst L i d wr g w0 w hL t r ht h10 HV HI HB
  by_cases h12 : t.kind = 12
  ·exact here_obj cst L i d wr g w0 w hL t r ht h12 HV HI HB
  by_cases h15 : t.kind = 15
  ·by_cases ht1 : t.value = ⟨#[116, 114, 117, 101]⟩
   ·exact here_true cst L i d wr g w0 w hL t r ht h15 ht1 HI HB
   by_cases ht2 : t.value = ⟨#[102, 97, 108, 115, 101]⟩
   ·exact here_false cst L i d wr g w0 w hL t r ht h15 ht2 HI HB
   by_cases ht3 : t.value = ⟨#[110, 117, 108, 108]⟩
   ·exact here_null cst L i d wr g w0 w hL t r ht h15 ht3 HI HB
   ·exact here_word cst L i d wr g w0 w hL t r ht h15 (fun e => ht1 (ba_list e)) (fun e => ht2 (ba_list e)) (fun e => ht3 (ba_list e)) HI HB
  by_cases h16 : t.kind = 16
  ·exact here_lit cst L i d wr g w0 w hL t r ht 16 12 (.inl ⟨rfl, rfl⟩) h16 HI HB
  by_cases h17 : t.kind = 17
  ·exact here_lit cst L i d wr g w0 w hL t r ht 17 13 (.inr (.inl ⟨rfl, rfl⟩)) h17 HI HB
  by_cases h18 : t.kind = 18
  ·exact here_lit cst L i d wr g w0 w hL t r ht 18 14 (.inr (.inr (.inl ⟨rfl, rfl⟩))) h18 HI HB
  by_cases h19 : t.kind = 19
  ·exact here_lit cst L i d wr g w0 w hL t r ht 19 14 (.inr (.inr (.inr ⟨rfl, rfl⟩))) h19 HI HB
  ·exact here_other cst L i d wr g w0 w hL t r ht (by intro k hk e; omega) HI HB
theorem val_all (cst : Bool) (L : List Tok) (hL : L.length ≤ 2000) (g : Nat) (w0 : World) : ∀ (m : Nat) (d : Int), 0 ≤ d → d + m = 60 →
  ∀ (j : Nat) (wr : Int) (w : World), j ≤ L.length → IsS45 w0 w g (L.map sT) j d wr false false → Below w0.heap.size w0 w →
  Calls Tryz.prog 14 #[.pointer (some ⟨g, 0, none⟩), .bool cst] w (VPost cst L j d g w0 w) := by
 intro m
 induction m with
 | zero => exact fun d h0 h1 j wr w hj hI hB => value_any cst L j d wr g w0 w hL hj h0 (by omega) (fun h => by omega) hI hB
 | succ m ih =>
  exact fun d h0 h1 j wr w hj hI hB => value_any cst L j d wr g w0 w hL hj h0 (by omega) (fun _ wx hIx hBx => here_any cst L j (d + 1) wr g w0 wx hL hj (ih (d + 1) (by omega) (by omega)) hIx hBx) hI hB
end Go.Proofs.YtjoagdldbmlenaaGreatDoor.Rp
