import Derived.Test.YtofafhboagfihaaDoorLex
import Derived.Deep.QuietTactic
import Derived.BigQuiet
namespace Go.Proofs.YtofafhboagfihaaDoor.Lex
open Go.RowKit Go.Proofs.YtofafhboagfihaaDoor.Mem Go.Proofs.YtofafhboagfihaaDoorW.PrintWords

theorem ret_bool {a b : Bool} (h : a = b) : Ending.returned (.bool a) = .returned (.bool b) := by rw [h]
theorem ret_int {k : IntKind} {a b : Int} (h : a = b) : Ending.returned (.int k a) = .returned (.int k b) := by rw [h]

/-- A contract that leaves the world alone, inside a region that draws. -/
theorem quietS {P : Program} {f : FuncId} {args : Array Value} {w : World} {n : Nat} {v : Value}
    (h : Calls P f args (w.drewN n) fun e w' => e = .returned v ∧ w.drewN n = w') : Calls P f args (w.drewN n) fun e w'' => e = .returned v ∧ ∃ m, w'' = w.drewN m :=
  Calls.quiet_of_same (h.mono fun _ _ ⟨h1, h2⟩ => ⟨h1, h2.symm⟩)

/-- The same behind a quiet region. -/
theorem quietA {P : Program} {f : FuncId} {args : Array Value} {w : World} {a n : Nat} {v : Value}
    (h : Calls P f args (w.drewN (a + n)) fun e w' => e = .returned v ∧ w.drewN (a + n) = w') : Calls P f args (w.drewN (a + n)) fun e w'' => e = .returned v ∧ ∃ m, w'' = w.drewN (a + m) :=
  h.mono fun _ _ ⟨he, hm⟩ => ⟨he, n, hm.symm⟩

def isBeginB (c : Int) : Bool := decide ((97 ≤ c ∧ c ≤ 122) ∨ (65 ≤ c ∧ c ≤ 90) ∨ c = 95)
def isDigitB (c : Int) : Bool := decide (48 ≤ c ∧ c ≤ 57)
def startsB (s : ByteArray) (p : Nat) (t : ByteArray) : Bool := decide (p + t.size ≤ s.size) && ((s.extract p (p + t.size)).toList == t.toList)

set_option maxHeartbeats 400000 in
theorem isBegin_any (c : Int) (w : World) :
    Calls Tryd.prog 10 #[.int .u8 c] w fun e w' => e = .returned (.bool (isBeginB c)) ∧ w = w' := by
  have hc : c < 65 ∨ (65 ≤ c ∧ c ≤ 90) ∨ (90 < c ∧ c < 95) ∨ c = 95 ∨ c = 96 ∨ (97 ≤ c ∧ c ≤ 122) ∨ 122 < c := by omega
  rcases hc with a1 | ⟨a1, a2⟩ | ⟨a1, a2⟩ | a1 | a1 | ⟨a1, a2⟩ | a1
  · have E := Aside0.mk (show isBeginB c = false by unfold isBeginB; exact decide_eq_false (by omega))
    go_enter Tryd.func10, Tryd.ntmps10
    go_wp2
    go_ret
    exact ⟨ret_bool (by first | (rw [E.out]; done) | (rw [E.out]; simp; omega)), rfl⟩
  · have E := Aside0.mk (show isBeginB c = true by unfold isBeginB; exact decide_eq_true (by omega))
    go_enter Tryd.func10, Tryd.ntmps10
    go_wp2
    go_ret
    exact ⟨ret_bool (by first | (rw [E.out]; done) | (rw [E.out]; simp; omega)), rfl⟩
  · have E := Aside0.mk (show isBeginB c = false by unfold isBeginB; exact decide_eq_false (by omega))
    go_enter Tryd.func10, Tryd.ntmps10
    go_wp2
    go_ret
    exact ⟨ret_bool (by first | (rw [E.out]; done) | (rw [E.out]; simp; omega)), rfl⟩
  · subst a1
    have E := Aside0.mk (show isBeginB 95 = true by decide)
    go_enter Tryd.func10, Tryd.ntmps10
    go_wp2
    go_ret
    exact ⟨ret_bool (by first | (rw [E.out]; done) | (rw [E.out]; simp; omega)), rfl⟩
  · subst a1
    have E := Aside0.mk (show isBeginB 96 = false by decide)
    go_enter Tryd.func10, Tryd.ntmps10
    go_wp2
    go_ret
    exact ⟨ret_bool (by first | (rw [E.out]; done) | (rw [E.out]; simp; omega)), rfl⟩
  · have E := Aside0.mk (show isBeginB c = true by unfold isBeginB; exact decide_eq_true (by omega))
    go_enter Tryd.func10, Tryd.ntmps10
    go_wp2
    go_ret
    exact ⟨ret_bool (by first | (rw [E.out]; done) | (rw [E.out]; simp; omega)), rfl⟩
  · have E := Aside0.mk (show isBeginB c = false by unfold isBeginB; exact decide_eq_false (by omega))
    go_enter Tryd.func10, Tryd.ntmps10
    go_wp2
    go_ret
    exact ⟨ret_bool (by first | (rw [E.out]; done) | (rw [E.out]; simp; omega)), rfl⟩

set_option maxHeartbeats 400000 in
theorem isDigit_any (c : Int) (w : World) :
    Calls Tryd.prog 21 #[.int .u8 c] w fun e w' => e = .returned (.bool (isDigitB c)) ∧ w = w' := by
  have hc : c < 48 ∨ (48 ≤ c ∧ c ≤ 57) ∨ 57 < c := by omega
  rcases hc with a1 | ⟨a1, a2⟩ | a1
  · have E := Aside0.mk (show isDigitB c = false by unfold isDigitB; exact decide_eq_false (by omega))
    go_enter Tryd.func21, Tryd.ntmps21
    go_wp2
    go_ret
    exact ⟨ret_bool (by first | (rw [E.out]; done) | (rw [E.out]; simp; omega)), rfl⟩
  · have E := Aside0.mk (show isDigitB c = true by unfold isDigitB; exact decide_eq_true (by omega))
    go_enter Tryd.func21, Tryd.ntmps21
    go_wp2
    go_ret
    exact ⟨ret_bool (by first | (rw [E.out]; done) | (rw [E.out]; simp; omega)), rfl⟩
  · have E := Aside0.mk (show isDigitB c = false by unfold isDigitB; exact decide_eq_false (by omega))
    go_enter Tryd.func21, Tryd.ntmps21
    go_wp2
    go_ret
    exact ⟨ret_bool (by first | (rw [E.out]; done) | (rw [E.out]; simp; omega)), rfl⟩

set_option maxHeartbeats 400000 in
theorem starts_any (s t : ByteArray) (p : Nat) (w : World) (hs : s.size ≤ 140737488351232) (ht : t.size ≤ 140737488351232) (hp : p ≤ s.size) :
    Calls Tryd.prog 16 #[.string s, .int .i64 p, .string t] w fun e w' => e = .returned (.bool (startsB s p t)) ∧ w = w' := by
  by_cases h : p + t.size ≤ s.size
  · have E := Aside0.mk (show startsB s p t = ((s.extract p (p + t.size)).toList == t.toList) by unfold startsB; rw [decide_eq_true h]; rfl)
    go_enter Tryd.func16, Tryd.ntmps16
    go_wp2
    go_ret
    exact ⟨ret_bool (by rw [E.out]), rfl⟩
  · have E := Aside0.mk (show startsB s p t = false by unfold startsB; rw [decide_eq_false h]; rfl)
    go_enter Tryd.func16, Tryd.ntmps16
    go_wp2
    go_ret
    exact ⟨ret_bool (by rw [E.out]), rfl⟩
end Go.Proofs.YtofafhboagfihaaDoor.Lex
