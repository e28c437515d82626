import Derived.Test.YtklgaldpcaogbaaGreatDoorShelf
import Derived.Test.YtklgaldpcaogbaaGreatDoorStarts
namespace Go.Proofs.YtklgaldpcaogbaaGreatDoor.Rune
open Go.RowKit Go.Proofs.YtklgaldpcaogbaaGreatDoor.Mem Go.Proofs.YtklgaldpcaogbaaGreatDoor.Lex Go.Proofs.YtklgaldpcaogbaaGreatDoorW.PrintWords

/-- The bytes of a text, in a row of their own. -/
def BodyAt (w : World) (bb : Nat) (s : ByteArray) : Prop := ∀ j : Nat, j < s.size → w.cell? ⟨bb, j, none⟩ = some (.int .u8 (bt s j))
theorem get_eq (s : ByteArray) (j : Nat) (h : j < s.size) : s.get! j = s[j] := by
  show (s.data[j]!) = _
  rw [getElem!_pos _ _ (by simpa using h)]
  rfl
theorem bt_get (s : ByteArray) (j : Nat) (h : j < s.size) : bt s j = ((s.get! j).toNat : Int) := by
  rw [get_eq s j h, bt_nat s j h]
theorem BodyAt.below {w w' : World} {bb : Nat} {s : ByteArray} (h : BodyAt w bb s) (hb : Below w.heap.size w w') : BodyAt w' bb s := fun j hj => pw_cell_below hb (h j hj)

/-- The rune at a place, and its bytes. -/
def runeOf (s : ByteArray) (p : Nat) : Int × Int :=
  if s.size ≤ p then (-1, 65533) else if bt s p < 128 then (bt s p, 1) else (((Lib.decodeGo (s.extract p s.size)).1 : Int), ((Lib.decodeGo (s.extract p s.size)).2 : Int))

theorem decode_tail (bb p n cap : Nat) (s : ByteArray) (w : World) (hT : Lib.Utf8Tabs 1 2 w) (hb : BodyAt w bb s) (hp : p < s.size) (hn : n = s.size - p) :
    Calls Tryz.prog 31 #[.slice (some ⟨bb, p, none⟩) n cap] w fun e w' => e = .returned (.tuple #[.int .i32 (Lib.decodeGo (s.extract p s.size)).1, .int .i64 (Lib.decodeGo (s.extract p s.size)).2]) ∧ Below w.heap.size w w' := by
  have hsz : (s.extract p s.size).size = n := by rw [ByteArray.size_extract]; omega
  rw [← hsz]
  refine Tryz.utf8_DecodeRune (s.extract p s.size) bb p cap w hT (fun j hj => ?_)
  have hj' : p + j < s.size := by omega
  rw [hb (p + j) hj']
  congr 2
  rw [← bt_nat s (p + j) hj']
  have h2 := ByteArray.getElem_extract (b := s) (start := p) (stop := s.size) (i := j) hj
  rw [get_eq _ _ hj, h2]

set_option maxHeartbeats 1000000 in
theorem runeAt_any (bb p cap : Nat) (s : ByteArray) (w : World) (hT : Lib.Utf8Tabs 1 2 w) (hb : BodyAt w bb s) (hcap : s.size ≤ cap) (hp : p ≤ 281474976710656) :
    Calls Tryz.prog 25 #[.slice (some ⟨bb, 0, none⟩) s.size cap, .int .i64 p] w fun e w' =>
      e = .returned (.tuple #[.int .i32 (runeOf s p).1, .int .i64 (runeOf s p).2]) ∧ Below w.heap.size w w' := by
  by_cases h1 : s.size ≤ p
  · have e : runeOf s p = (-1, 65533) := by unfold runeOf; rw [if_pos h1]
    rw [e]
    have h1i : (s.size : Int) ≤ (p : Int) := by omega
    go_enter Tryz.func25, Tryz.ntmps25
    go_wp2
    go_ret2
    exact ⟨rfl, Below.refl _ _⟩
  · have hcell := hb p (by omega)
    have hT' := Aside0.mk hT
    have hb' := Aside0.mk hb
    clear hT hb
    have hb0 := bt_range s p
    have h1i : (p : Int) < (s.size : Int) := by omega
    by_cases h2 : bt s p < 128
    · have e : runeOf s p = (bt s p, 1) := by unfold runeOf; rw [if_neg h1, if_pos h2]
      rw [e]
      generalize bt s p = c at *
      go_enter Tryz.func25, Tryz.ntmps25
      go_wp2
      go_ret2
      exact ⟨rfl, Below.refl _ _⟩
    · have e : runeOf s p = (((Lib.decodeGo (s.extract p s.size)).1 : Int), ((Lib.decodeGo (s.extract p s.size)).2 : Int)) := by unfold runeOf; rw [if_neg h1, if_neg h2]
      rw [e]
      have HD := Aside0.mk (fun n cap hn => decode_tail bb p n cap s w hT'.out hb'.out (by omega) hn)
      generalize Lib.decodeGo (s.extract p s.size) = d at *
      generalize bt s p = c at *
      have hcp : ¬ cap = p := by omega
      go_enter Tryz.func25, Tryz.ntmps25
      go_wp2_with (go_at_call 31; refine (HD.out _ _ (by omega)).mono ?_; rintro e w' ⟨rfl, hbel⟩)
      go_ret2
      exact ⟨rfl, hbel⟩
end Go.Proofs.YtklgaldpcaogbaaGreatDoor.Rune
