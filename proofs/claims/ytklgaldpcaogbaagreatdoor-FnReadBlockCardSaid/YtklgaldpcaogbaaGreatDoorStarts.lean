import Derived.Test.YtklgaldpcaogbaaGreatDoorAdd
import Derived.Deep.QuietTactic
import Derived.BigQuiet
import Derived.Outline
import Derived.Deep.RegionWith
import Derived.BigRegion
namespace Go.Proofs.YtklgaldpcaogbaaGreatDoor.Lex
open Go.RowKit Go.Proofs.YtklgaldpcaogbaaGreatDoor.Mem Go.Proofs.YtklgaldpcaogbaaGreatDoorW.PrintWords

theorem ret_bool {a b : Bool} (h : a = b) : Ending.returned (.bool a) = .returned (.bool b) := by rw [h]
theorem ret_int {k : IntKind} {a b : Int} (h : a = b) : Ending.returned (.int k a) = .returned (.int k b) := by rw [h]

/-- A contract that leaves the world alone, inside a region that draws. -/
theorem quietS {P : Program} {f : FuncId} {args : Array Value} {w : World} {n : Nat} {v : Value}
    (h : Calls P f args (w.drewN n) fun e w' => e = .returned v ∧ w.drewN n = w') : Calls P f args (w.drewN n) fun e w'' => e = .returned v ∧ ∃ m, w'' = w.drewN m :=
  Calls.quiet_of_same (h.mono fun _ _ ⟨h1, h2⟩ => ⟨h1, h2.symm⟩)

/-- The same behind a quiet region. -/
theorem quietA {P : Program} {f : FuncId} {args : Array Value} {w : World} {a n : Nat} {v : Value}
    (h : Calls P f args (w.drewN (a + n)) fun e w' => e = .returned v ∧ w.drewN (a + n) = w') : Calls P f args (w.drewN (a + n)) fun e w'' => e = .returned v ∧ ∃ m, w'' = w.drewN (a + m) :=
  h.mono fun _ _ ⟨he, hm⟩ => ⟨he, n, hm.symm⟩

def startsB (s : ByteArray) (p : Nat) (t : ByteArray) : Bool := decide (p + t.size ≤ s.size) && ((s.extract p (p + t.size)).toList == t.toList)

set_option maxHeartbeats 400000 in
theorem starts_any (s t : ByteArray) (p : Nat) (w : World) (hs : s.size ≤ 140737488351232) (ht : t.size ≤ 140737488351232) (hp : p ≤ s.size) :
    Calls Tryz.prog 10 #[.string s, .int .i64 p, .string t] w fun e w' => e = .returned (.bool (startsB s p t)) ∧ w = w' := by
  by_cases h : p + t.size ≤ s.size
  · have E := Aside0.mk (show startsB s p t = ((s.extract p (p + t.size)).toList == t.toList) by unfold startsB; rw [decide_eq_true h]; rfl)
    go_enter Tryz.func10, Tryz.ntmps10
    go_wp2
    go_ret
    exact ⟨ret_bool (by rw [E.out]), rfl⟩
  · have E := Aside0.mk (show startsB s p t = false by unfold startsB; rw [decide_eq_false h]; rfl)
    go_enter Tryz.func10, Tryz.ntmps10
    go_wp2
    go_ret
    exact ⟨ret_bool (by rw [E.out]), rfl⟩

theorem toList_inj {s t : ByteArray} (h : s.toList = t.toList) : s = t := by
  rw [Lib.toList_data, Lib.toList_data] at h
  exact ByteArray.ext (Array.toList_inj.1 h)

theorem extract_one (s t : ByteArray) (p : Nat) (hp : p < s.size) (ht : 0 < t.size) (hne : bt s p ≠ bt t 0) : startsB s p t = false := by
  unfold startsB
  by_cases h : p + t.size ≤ s.size
  · rw [decide_eq_true h, Bool.true_and, beq_eq_false_iff_ne]
    intro e
    apply hne
    have e2 : s.extract p (p + t.size) = t := toList_inj e
    unfold bt
    rw [dif_pos (by simpa using hp), dif_pos (by simpa using ht)]
    have h0 : 0 < (s.extract p (p + t.size)).size := by rw [e2]; exact ht
    have e3 := ByteArray.getElem_extract (i := 0) (b := s) (start := p) (stop := p + t.size) h0
    simp only [e2, Nat.add_zero] at e3
    simp [e3]
  · rw [decide_eq_false h]; rfl

abbrev bom : ByteArray := ⟨#[239, 187, 191]⟩
abbrev dots : ByteArray := ⟨#[46, 46, 46]⟩
abbrev quotes : ByteArray := ⟨#[34, 34, 34]⟩
theorem bt_bom : bt bom 0 = 239 := by decide +kernel
theorem bt_dots : bt dots 0 = 46 := by decide +kernel
theorem bt_quotes : bt quotes 0 = 34 := by decide +kernel
theorem bt_nat (s : ByteArray) (p : Nat) : ∀ h : p < s.size, ((s[p]'h).toNat : Int) = bt s p := fun h => by simp [bt, h]

theorem starts_no (s t : ByteArray) (p : Nat) (w : World) (hs : s.size ≤ 140737488351232) (ht : t.size ≤ 140737488351232) (hp : p ≤ s.size) (h : startsB s p t = false) :
    Calls Tryz.prog 10 #[.string s, .int .i64 p, .string t] w fun e w' => e = .returned (.bool false) ∧ w = w' :=
  (starts_any s t p w hs ht hp).mono fun _ _ ⟨h1, h2⟩ => ⟨by rw [h1, h], h2⟩
theorem starts_yes (s t : ByteArray) (p : Nat) (w : World) (hs : s.size ≤ 140737488351232) (ht : t.size ≤ 140737488351232) (hp : p ≤ s.size) (h : startsB s p t = true) :
    Calls Tryz.prog 10 #[.string s, .int .i64 p, .string t] w fun e w' => e = .returned (.bool true) ∧ w = w' :=
  (starts_any s t p w hs ht hp).mono fun _ _ ⟨h1, h2⟩ => ⟨by rw [h1, h], h2⟩
end Go.Proofs.YtklgaldpcaogbaaGreatDoor.Lex
