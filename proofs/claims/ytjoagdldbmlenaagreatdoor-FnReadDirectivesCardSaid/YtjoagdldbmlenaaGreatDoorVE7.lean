import Derived.Test.YtjoagdldbmlenaaGreatDoorVP0
import Derived.Test.YtjoagdldbmlenaaGreatDoorVW2
import Derived.Deep.RegionHeld3
set_option maxRecDepth 100000
set_option maxHeartbeats 8000000
set_option linter.unusedVariables false
set_option linter.unusedSimpArgs false
namespace Go.Proofs.YtjoagdldbmlenaaGreatDoor.Rp
open Go.RowKit Go.Proofs.YtjoagdldbmlenaaGreatDoorW.PrintWords Go.Proofs.YtjoagdldbmlenaaGreatDoorW.PrintLast PFnReadDirectives
def alike (a b : S51) : Prop := a.f0 = b.f0 ∧ a.f1 = b.f1 ∧ a.f2 = b.f2 ∧ a.f3 = b.f3 ∧ (b.f0 = 15 → a.f4 = b.f4) ∧ a.f5 = b.f5
theorem same_doc (A B : Option Addr) (ca cb : Nat) (la lb : List S51) (w : World) (hA : Kd.C k51 w A la.length la) (hB : Kd.C k51 w B la.length lb) (hn : la.length ≤ 100000) (hs : ∀ i : Nat, i < la.length → alike (rd_T51 la i) (rd_T51 lb i)) :
  Calls Tryz.prog 8 #[.slice A la.length ca, .slice B la.length cb] w fun e w' => e = .returned (.bool true) ∧ Below w.heap.size w w' := by
 have HA := aK hA
 have HB := aK hB
 have HS := aK hs
 clear hA hB hs
 go_enter Tryz.func8, Tryz.ntmps8
 go_wp2_with fail
 go_loopg [5] (la.length + 1) (fun k v5 wr => ∃ i : Nat, Aside0 (v5 = .int .i64 i ∧ i ≤ la.length ∧ la.length - i < k ∧ Below w.heap.size w wr))
 case atStart => exact ⟨0, ⟨rfl, Nat.zero_le _, by omega, Below.refl _ _⟩⟩
 case round =>
  obtain ⟨i, H⟩ := hrel
  have e5 := H.out.1
  have hi := H.out.2.1
  subst e5
  by_cases hlt : i < la.length
  ·obtain ⟨x0, x1, x2, x3, x4, x5⟩ := HS.out i hlt
   obtain ⟨ad, rfl, a0, a1, a2, a3, a4, a5⟩ := at_T51 HA.out (i : Int) (by omega) (by omega)
   obtain ⟨bd, rfl, b0, b1, b2, b3, b4, b5⟩ := at_T51 HB.out (i : Int) (by omega) (by omega)
   have hb := H.out.2.2.2
   replace a0 := pw_cell_below hb a0
   replace a1 := pw_cell_below hb a1
   replace a2 := pw_cell_below hb a2
   replace a3 := pw_cell_below hb a3
   replace a4 := pw_cell_below hb a4
   replace a5 := pw_cell_below hb a5
   replace b0 := pw_cell_below hb b0
   replace b1 := pw_cell_below hb b1
   replace b2 := pw_cell_below hb b2
   replace b3 := pw_cell_below hb b3
   replace b4 := pw_cell_below hb b4
   replace b5 := pw_cell_below hb b5
   rw [x0] at a0
   rw [x1] at a1
   rw [x2] at a2
   rw [x3] at a3
   rw [x5] at a5
   generalize rd_T51 la (i : Int) = p at *
   generalize rd_T51 lb (i : Int) = q at *
   rw [Int.toNat_natCast] at a0 a1 a2 a3 a4 a5 b0 b1 b2 b3 b4 b5
   have p1 := eq_true (show 0 ≤ (i : Int) by omega)
   have p2 := eq_true (show (i : Int) < (la.length : Int) by omega)
   clear hb
   have na0 := World.new_ne wr _ a0
   have na1 := World.new_ne wr _ a1
   have na2 := World.new_ne wr _ a2
   have na3 := World.new_ne wr _ a3
   have na4 := World.new_ne wr _ a4
   have na5 := World.new_ne wr _ a5
   have nb0 := World.new_ne wr _ b0
   have nb1 := World.new_ne wr _ b1
   have nb2 := World.new_ne wr _ b2
   have nb3 := World.new_ne wr _ b3
   have nb4 := World.new_ne wr _ b4
   have nb5 := World.new_ne wr _ b5
   go_wp2_with fail
   go_region_held3 (fun w' => w'.cell? (ad.add (i * 6)) = some (.int .i64 q.f0) ∧ w'.cell? ⟨(ad.add (i * 6)).block, (ad.add (i * 6)).off + 1, none⟩ = some (.string q.f1) ∧ w'.cell? ⟨(ad.add (i * 6)).block, (ad.add (i * 6)).off + 2, none⟩ = some (.string q.f2) ∧ w'.cell? ⟨(ad.add (i * 6)).block, (ad.add (i * 6)).off + 3, none⟩ = some (.string q.f3) ∧ w'.cell? ⟨(ad.add (i * 6)).block, (ad.add (i * 6)).off + 4, none⟩ = some (.int .i64 p.f4) ∧ w'.cell? ⟨(ad.add (i * 6)).block, (ad.add (i * 6)).off + 5, none⟩ = some (.int .i64 q.f5) ∧ w'.cell? (bd.add (i * 6)) = some (.int .i64 q.f0) ∧ w'.cell? ⟨(bd.add (i * 6)).block, (bd.add (i * 6)).off + 1, none⟩ = some (.string q.f1) ∧ w'.cell? ⟨(bd.add (i * 6)).block, (bd.add (i * 6)).off + 2, none⟩ = some (.string q.f2) ∧ w'.cell? ⟨(bd.add (i * 6)).block, (bd.add (i * 6)).off + 3, none⟩ = some (.string q.f3) ∧ w'.cell? ⟨(bd.add (i * 6)).block, (bd.add (i * 6)).off + 4, none⟩ = some (.int .i64 q.f4) ∧ w'.cell? ⟨(bd.add (i * 6)).block, (bd.add (i * 6)).off + 5, none⟩ = some (.int .i64 q.f5)) (go_keep) (fail)
   all_goals
    clear a0 a1 a2 a3 a4 a5 b0 b1 b2 b3 b4 b5 na0 na1 na2 na3 na4 na5 nb0 nb1 nb2 nb3 nb4 nb5 x0 x1 x2 x3 x5 p1 p2
    have hw1 : IntKind.i64.wrap ((i : Int) + 1) = (i : Int) + 1 := by rw [IntKind.wrap_i64]; omega
    obtain ⟨k1, rfl⟩ : ∃ k1, gk = k1 + 1 := ⟨gk - 1, by have := H.out.2.2.1; omega⟩
    by_cases h15 : q.f0 = 15
    ·have e4 := x4 h15
     clear x4
     go_wp2_with fail
     go_roundg k1
     case measure => first | omega | simp
     case rel => exact ⟨i + 1, ⟨rfl, by omega, by have := H.out.2.2.1; omega, below_drew (below_alloc (below_alloc H.out.2.2.2 _) _)⟩⟩
    ·clear x4
     go_wp2_with fail
     go_roundg k1
     case measure => first | omega | simp
     case rel => exact ⟨i + 1, ⟨rfl, by omega, by have := H.out.2.2.1; omega, below_drew (below_alloc (below_alloc H.out.2.2.2 _) _)⟩⟩
  ·obtain rfl : i = la.length := by omega
   have hb := H.out.2.2.2
   clear H
   go_wp2_with fail
   go_ret
   exact ⟨rfl, hb⟩
end Go.Proofs.YtjoagdldbmlenaaGreatDoor.Rp
