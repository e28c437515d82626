import Derived.Test.YtklgaldpcaogbaaGreatDoorErr
namespace Go.Proofs.YtklgaldpcaogbaaGreatDoor.Err
open Go.RowKit Go.Proofs.YtklgaldpcaogbaaGreatDoor.Mem Go.Proofs.YtklgaldpcaogbaaGreatDoor.Lex Go.Proofs.YtklgaldpcaogbaaGreatDoor.Rune Go.Proofs.YtklgaldpcaogbaaGreatDoorW.PrintWords Go.Proofs.YtklgaldpcaogbaaGreatDoorW.PrintLast

/-- A pointer to a new error, and nothing below changed. -/
def SomeErr (w : World) (e : Ending) (w' : World) : Prop := ∃ g : Nat, e = .returned (.pointer (some ⟨g, 0, none⟩)) ∧ Below w.heap.size w w'

set_option maxRecDepth 100000 in
set_option maxHeartbeats 4000000 in
theorem newError_any (sb bb cap pb nb pc : Nat) (pos : Int) (s msg : ByteArray) (w : World) (h : BodyAt w bb s) (h0 : w.cell? ⟨sb, 0, none⟩ = some (.slice (some ⟨bb, 0, none⟩) s.size cap)) (hs : s.size ≤ 1000000000) (hcap : s.size ≤ cap)
    (hp : w.cell? ⟨pb, 0, none⟩ = some (.int .i64 pos)) (hm : (!msg.toList.isEmpty) = true) :
    Calls Tryz.prog 46 #[.string msg, .slice (some ⟨nb, 0, none⟩) 0 0, .string ⟨#[]⟩, .pointer (some ⟨sb, 0, none⟩), .slice (some ⟨pb, 0, none⟩) 1 pc, .slice none 0 0, .nilIface] w fun e w' => SomeErr w e w' := by
  have hsb : sb < w.heap.size := World.block_lt_of_cell? w _ h0
  have hpb : pb < w.heap.size := World.block_lt_of_cell? w _ hp
  have HL := Aside0.mk (fun W (hb : Below w.heap.size w W) => getLocation_any sb bb cap pos s W (h.below hb) ((hb.cell (p := ⟨sb, 0, none⟩) hsb).trans h0) hs hcap)
  clear h
  go_enter Tryz.func46, Tryz.ntmps46
  go_wp2_with fail
  go_loopw [19, 88] (fun l i wr => (i = .int .i64 0 ∧ l = .slice (some ⟨w.heap.size, 0, none⟩) 0 0 ∧ wr = w.alloc (.cells #[] 105)) ∨ (i = .int .i64 1 ∧ ∃ g m c, l = .slice g m c ∧ Aside0 (Below w.heap.size w wr))) (fun _ i _ => 1 - (intOf i).toNat)
  case atStart => exact .inl ⟨rfl, rfl, rfl⟩
  case round =>
    rcases hrel with ⟨rfl, rfl, rfl⟩ | ⟨rfl, g, m, c, rfl, HB⟩
    · have hp1 : (w.alloc (.cells #[] 105)).cell? ⟨pb, 0, none⟩ = some (.int .i64 pos) := (((Below.refl _ _).alloc (Nat.le_refl _) _).cell (p := ⟨pb, 0, none⟩) hpb).trans hp
      go_wp2_with fail
      refine (HL.out _ (by exact below_alloc (Below.refl _ _) _)).mono ?_
      rintro e w2 ⟨x, y, rfl, hb⟩
      have HB := Aside0.mk (below_one (w := w) (by simpa using hb))
      clear hb
      go_wp2_with fail
      exact ⟨.inr ⟨rfl, _, _, _, rfl, Aside0.mk (below_alloc (below_alloc (below_alloc HB.out _) _) _).drew⟩, by simp [intOf]⟩
    · go_wp2_with fail
      refine bodyPost_ret (v := .pointer (some ⟨wr.heap.size, 0, none⟩)) (by simp [results, Tryz.results46, go_sem]) rfl ⟨_, rfl, ?_⟩
      exact below_alloc HB.out _

set_option maxRecDepth 100000 in
set_option maxHeartbeats 4000000 in
theorem newErr_any (sb bb cap pb nb pc : Nat) (pos : Int) (s msg : ByteArray) (w : World) (h : BodyAt w bb s) (h0 : w.cell? ⟨sb, 0, none⟩ = some (.slice (some ⟨bb, 0, none⟩) s.size cap)) (hs : s.size ≤ 1000000000) (hcap : s.size ≤ cap)
    (hp : w.cell? ⟨pb, 0, none⟩ = some (.int .i64 pos)) (hm : (!msg.toList.isEmpty) = true) :
    Calls Tryz.prog 38 #[.string msg, .slice (some ⟨nb, 0, none⟩) 0 0, .string ⟨#[]⟩, .pointer (some ⟨sb, 0, none⟩), .slice (some ⟨pb, 0, none⟩) 1 pc, .nilIface] w fun e w' => SomeErr w e w' := by
  go_enter Tryz.func38, Tryz.ntmps38
  go_wp2_with fail
  refine (newError_any sb bb cap pb nb pc pos s msg w h h0 hs hcap hp hm).mono ?_
  rintro e w2 ⟨g, rfl, hb⟩
  go_wp2_with fail
  exact bodyPost_ret (v := .pointer (some ⟨g, 0, none⟩)) (by simp [results, Tryz.results38, go_sem]) rfl ⟨_, rfl, hb⟩

set_option maxRecDepth 100000 in
set_option maxHeartbeats 4000000 in
/-- NewSyntaxError: a new error, nothing below changed. -/
theorem syntaxError_any (sb bb cap : Nat) (pos : Int) (s msg : ByteArray) (w : World) (h : BodyAt w bb s) (h0 : w.cell? ⟨sb, 0, none⟩ = some (.slice (some ⟨bb, 0, none⟩) s.size cap)) (hs : s.size ≤ 1000000000) (hcap : s.size ≤ cap) :
    Calls Tryz.prog 30 #[.pointer (some ⟨sb, 0, none⟩), .int .i64 pos, .string msg] w fun e w' => SomeErr w e w' := by
  have hsb : sb < w.heap.size := World.block_lt_of_cell? w _ h0
  have HL := Aside0.mk (fun W (hb : Below w.heap.size w W) (pb nb : Nat) (hp : W.cell? ⟨pb, 0, none⟩ = some (.int .i64 pos)) (msg : ByteArray) (hm : (!msg.toList.isEmpty) = true) => newErr_any sb bb cap pb nb 1 pos s msg W (h.below hb) ((hb.cell (p := ⟨sb, 0, none⟩) hsb).trans h0) hs hcap hp hm)
  clear h
  go_enter Tryz.func30, Tryz.ntmps30
  go_wp2_with fail
  have hb0 : Below w.heap.size w ((w.alloc (Obj.cells #[] 97)).alloc (Obj.cells #[Value.int IntKind.i64 pos] 3)) := below_alloc (below_alloc (Below.refl _ _) _) _
  refine (HL.out _ (by exact hb0) (w.heap.size + 1) _ (by simp [go_sem]) _ (by decide_cbv)).mono ?_
  rintro e w2 ⟨g, rfl, hb⟩
  have hb1 := Aside0.mk (hb0.trans (hb.mono (by simp; omega)))
  clear hb
  go_wp2_with fail
  exact bodyPost_ret (v := .pointer (some ⟨g, 0, none⟩)) (by simp [results, Tryz.results30, go_sem]) rfl ⟨_, rfl, hb1.out⟩
end Go.Proofs.YtklgaldpcaogbaaGreatDoor.Err
