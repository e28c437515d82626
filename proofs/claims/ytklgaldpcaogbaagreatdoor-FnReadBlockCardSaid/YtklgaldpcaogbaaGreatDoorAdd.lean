import Derived.Test.YtklgaldpcaogbaaGreatDoorProg
import Derived.Test.YtklgaldpcaogbaaGreatDoorMem
import Derived.WalkSpells
import Derived.StillTactics
import Derived.OwnWalk
import Derived.Deep.RegionLaw
import Derived.OneCell
import Derived.Laws.Pointers
import Derived.Test.YtklgaldpcaogbaaGreatDoorWWords
namespace Go.Proofs.YtklgaldpcaogbaaGreatDoor.Lex
open Go.RowKit Go.Proofs.YtklgaldpcaogbaaGreatDoor.Mem Go.Proofs.YtklgaldpcaogbaaGreatDoorW.PrintWords

theorem infoTok : (Tryz.prog.info? 24).map (fun i => (i.zero, i.size, i.bytes)) = some (some (.agg #[.int .i64 0, .string ⟨#[]⟩, .int .i64 0, .int .i64 0]), 4, 40) := by kernel_rfl

theorem add_end {b base gg cap : Nat} {k to_ p : Int} {val s : ByteArray} {v : Value} {bad uns : Bool} {l : List Tok} {w w1 : World} {X : Obj}
    (_hL : LexAt w b s p v bad uns) (hbase : base ≤ w.heap.size) (hB : base ≤ b) (hown : w.ownsRow base 24 4 v l.length (toks l)) (hL1 : LexAt w1 b s p v bad uns)
    (hown1 : w1.ownsRow base 24 4 (.slice (some ⟨gg, 0, none⟩) (l.length + 1) cap) (l.length + 1) (toks l ++ [.int .i64 k, .string val, .int .i64 p, .int .i64 to_]))
    (hgrow : (w.alloc X).drew.grownBy w1 v.ownBlock) (hne : gg ≠ b) :
    ∃ v', LexAt ((w1.setCell ⟨b, 2, none⟩ (.slice (some ⟨gg, 0, none⟩) (l.length + 1) cap)).setCell ⟨b, 1, none⟩ (.int .i64 to_)) b s to_ v' bad uns ∧
      ((w1.setCell ⟨b, 2, none⟩ (.slice (some ⟨gg, 0, none⟩) (l.length + 1) cap)).setCell ⟨b, 1, none⟩ (.int .i64 to_)).ownsRow base 24 4 v' (l.length + 1) (toks (l ++ [⟨k, val, p, to_⟩])) ∧
      Below base w ((w1.setCell ⟨b, 2, none⟩ (.slice (some ⟨gg, 0, none⟩) (l.length + 1) cap)).setCell ⟨b, 1, none⟩ (.int .i64 to_)) := by
  refine ⟨_, Blk.set_ (Blk.set_ hL1 2 _) 1 _, ?_, ?_⟩
  · rw [toks_snoc]
    have h2 : (Value.slice (some ⟨gg, 0, none⟩) (l.length + 1) cap).ownBlock ≠ some b := by
      intro e
      have : gg = b := by simpa [Value.ownBlock] using e
      exact hne this
    exact ownsRow_setCell_other (ownsRow_setCell_other hown1 (a := ⟨b, 2, none⟩) h2 _) (a := ⟨b, 1, none⟩) h2 _
  · have b1 : Below base w (w.alloc X).drew := below_drew ((Below.refl _ _).alloc hbase X)
    exact ((b1.grown hgrow (by simp; omega) (own_base hown)).setCell (p := ⟨b, 2, none⟩) hB _).setCell (p := ⟨b, 1, none⟩) hB _

set_option maxRecDepth 100000 in
set_option maxHeartbeats 3200000 in
theorem add_any (b base : Nat) (k : Int) (to_ : Int) (val s : ByteArray) (p : Int) (v : Value) (bad uns : Bool) (l : List Tok) (w : World)
    (hL : LexAt w b s p v bad uns) (hown : w.ownsRow base 24 4 v l.length (toks l)) (hbase : base ≤ w.heap.size) (hB : base ≤ b) (hn : l.length ≤ 2147483648) :
    Calls Tryz.prog 17 #[.pointer (some ⟨b, 0, none⟩), .int .i64 k, .int .i64 to_, .string val] w fun e w' => e = .returned (.tuple #[]) ∧
      ∃ v', LexAt w' b s to_ v' bad uns ∧ w'.ownsRow base 24 4 v' (l.length + 1) (toks (l ++ [⟨k, val, p, to_⟩])) ∧ Below base w w' := by
  obtain ⟨i0, hi0, hz0, hz1, hz2⟩ := info_parts infoTok
  have c1 := hL.c1
  have c2 := hL.c2
  have hne : v.ownBlock ≠ some b := own_blk_ne hown hL (by decide)
  have lb : b < w.heap.size := Blk.lt hL
  go_enter Tryz.func17, Tryz.ntmps17
  go_wp2_with fail
  go_region_law ((refine step_append_lies _ (by rfl) _ _ _ (by rfl) base 24 i0 _ 4 40 Tryz.underlying44 hi0 hz0 hz1 hz2 rfl (by omega) v l.length (toks l) (by rfl) ((hown.alloc _).drew) ⟨w.heap.size, 0, none⟩ 1 1 [.int .i64 k, .string val, .int .i64 p, .int .i64 to_] (by rfl) (by rfl) (World.news_of_block (cs := #[.int .i64 k, .string val, .int .i64 p, .int .i64 to_]) (t := 24) (fr := (0, 0)) (heap_alloc_new w _)) (by simp [Value.oneCell']) (by omega) (by simp [maxLen]; omega) (by omega) (by simp; omega) (w.heap.size + 1) (by simp) ?_; intro gg cap w1 hown1 hgrow hat hlt; have hL1 : LexAt w1 b s p v bad uns := Blk.grown (Blk.drew (Blk.alloc hL _)) hgrow (Ne.symm hne); have hf1 := Blk.frozen hL1 2; have hf2 := Blk.frozen hL1 1; have hd1 := hL1.c1; have hd2 := hL1.c2))
  all_goals
    have hne2 : gg ≠ b := fun e => own_blk_ne hown1 hL1 (by decide) (by rw [e]; rfl)
    have hout := add_end (to_ := to_) hL hbase hB hown hL1 hown1 hgrow hne2
    have HO := Aside0.mk hout
    clear hout hown1 hgrow hat hL1 hne2
    go_wp2
    go_end0
    exact ⟨rfl, HO.out⟩
end Go.Proofs.YtklgaldpcaogbaaGreatDoor.Lex
