import Derived.Test.YtklgaldpcaogbaaGreatDoorLead
import Derived.Test.YtklgaldpcaogbaaGreatDoorStarts
import Derived.Laws.RangeAny
namespace Go.Proofs.YtklgaldpcaogbaaGreatDoor.LinesP
open Go.RowKit Go.Proofs.YtklgaldpcaogbaaGreatDoor.Lex Go.Proofs.YtklgaldpcaogbaaGreatDoorW.PrintWords Go.Proofs.YtklgaldpcaogbaaGreatDoorW.PrintLast Go.Proofs.YtklgaldpcaogbaaGreatDoorW.PrintMore

theorem lead_end (s : ByteArray) (p : Nat) (hp : ¬ p < s.size) (h : leadGo s (s.size - p) p = lead s) : lead s = p := by
  rw [show s.size - p = 0 by omega] at h
  exact h.symm
theorem lead_stop (s : ByteArray) (p : Nat) (hp : p < s.size) (h : leadGo s (s.size - p) p = lead s) (h1 : bt s p ≠ 32) (h2 : bt s p ≠ 9) : lead s = p := by
  obtain ⟨d, hd⟩ : ∃ d, s.size - p = d + 1 := ⟨s.size - p - 1, by omega⟩
  rw [hd] at h
  simp only [leadGo] at h
  rw [if_neg (by omega)] at h
  exact h.symm
theorem lead_next (s : ByteArray) (p : Nat) (hp : p < s.size) (h : leadGo s (s.size - p) p = lead s) (h1 : bt s p = 32 ∨ bt s p = 9) : leadGo s (s.size - (p + 1)) (p + 1) = lead s := by
  obtain ⟨d, hd⟩ : ∃ d, s.size - p = d + 1 := ⟨s.size - p - 1, by omega⟩
  rw [hd] at h
  simp only [leadGo] at h
  rw [if_pos h1] at h
  rw [show s.size - (p + 1) = d by omega]
  exact h
theorem iter_below (w : World) (s : ByteArray) (p : Nat) : Below w.heap.size w (w.iter s p) := below_alloc (Below.refl _ _) _

set_option maxRecDepth 100000 in
set_option maxHeartbeats 1000000 in
theorem leadWs_any (s : ByteArray) (w : World) (hs : s.size ≤ 140737488351232) :
    Calls Tryz.prog 35 #[.string s] w fun e w' => e = .returned (.int .i64 (lead s)) ∧ Below w.heap.size w w' := by
  go_enter Tryz.func35, Tryz.ntmps35
  go_wp2
  go_loopw [2] (fun n w' => ∃ p : Nat, p ≤ s.size ∧ w' = w.iter s p ∧ n = .int .i64 p ∧ leadGo s (s.size - p) p = lead s) (fun _ w' => s.size - w'.iterPos w.heap.size)
  case atStart => exact ⟨0, by omega, rfl, rfl, rfl⟩
  case round =>
    obtain ⟨p, hps, rfl, rfl, hL⟩ := hrel
    by_cases hp : p < s.size
    · have hbn := bt_nat s p hp
      by_cases ha : (s[p]'hp).toNat < 128
      · have hnx : ∀ ty, (Instr.next (.pointer (some ⟨w.heap.size, 0, none⟩)) true ty).run Tryz.prog (w.iter s p) = .ok (.tuple #[.bool true, .int .i64 p, .int .i32 (bt s p)]) (w.iter s (p + 1)) := fun ty => by
          rw [← hbn]; exact run_next_ascii w s p ty hp ha
        have hst := lead_stop s p hp hL
        have hnxt := lead_next s p hp hL
        clear hbn ha
        generalize bt s p = c at *
        by_cases h1 : c = 32
        · subst h1
          have hq := hnxt (.inl rfl)
          go_wp2
          go_roundw
          case rel => exact ⟨p + 1, by omega, rfl, by go_num, hq⟩
          case measure => simp; omega
        · by_cases h2 : c = 9
          · subst h2
            have hq := hnxt (.inr rfl)
            go_wp2
            go_roundw
            case rel => exact ⟨p + 1, by omega, rfl, by go_num, hq⟩
            case measure => simp; omega
          · have hq := hst h1 h2
            have f1 : (c == 32) = false := beq_eq_false_iff_ne.2 h1
            have f2 : (c == 9) = false := beq_eq_false_iff_ne.2 h2
            go_wp2
            go_ret
            exact ⟨by rw [hq]; rfl, iter_below _ _ _⟩
      · have hnx : ∀ ty, (Instr.next (.pointer (some ⟨w.heap.size, 0, none⟩)) true ty).run Tryz.prog (w.iter s p) = _ := fun ty => run_next_any w s p ty hp
        have hd := (decode_high s p hp (by omega)).1
        have hq := lead_stop s p hp hL (by omega) (by omega)
        generalize Utf8.decode s p = d at *
        have f1 : ((d.1 : Int) == 32) = false := beq_eq_false_iff_ne.2 (by omega)
        have f2 : ((d.1 : Int) == 9) = false := beq_eq_false_iff_ne.2 (by omega)
        go_wp2
        go_ret
        exact ⟨by rw [hq]; rfl, iter_below _ _ _⟩
    · have hnx : ∀ ty, (Instr.next (.pointer (some ⟨w.heap.size, 0, none⟩)) true ty).run Tryz.prog (w.iter s p) = _ := fun ty => run_next_end w s p ty hp
      have hq := lead_end s p hp hL
      go_wp2
      go_ret
      exact ⟨by rw [hq]; rfl, iter_below _ _ _⟩

set_option maxRecDepth 100000 in
set_option maxHeartbeats 1000000 in
theorem blank_any (s : ByteArray) (w : World) (hs : s.size ≤ 140737488351232) :
    Calls Tryz.prog 36 #[.string s] w fun e w' => e = .returned (.bool (decide (lead s = s.size))) ∧ Below w.heap.size w w' := by
  have HC := Aside0.mk (fun W => leadWs_any s W hs)
  have hle := lead_le s
  go_enter Tryz.func36, Tryz.ntmps36
  by_cases h : lead s = s.size
  · go_wp2_with (go_at_call 35; refine (HC.out _).mono ?_; rintro e w' ⟨rfl, hb⟩)
    rw [h]
    go_wp2
    go_ret
    exact ⟨by simp, hb⟩
  · have f1 : ((lead s : Int) == (s.size : Int)) = false := beq_eq_false_iff_ne.2 (by omega)
    go_wp2_with (go_at_call 35; refine (HC.out _).mono ?_; rintro e w' ⟨rfl, hb⟩)
    go_ret
    exact ⟨by simp [h], hb⟩
end Go.Proofs.YtklgaldpcaogbaaGreatDoor.LinesP
