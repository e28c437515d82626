import Derived.Test.YtklgaldpcaogbaaGreatDoorSrc
import Derived.Test.YtklgaldpcaogbaaGreatDoorErrP
namespace Go.Proofs.YtklgaldpcaogbaaGreatDoor.Err
open Go.RowKit Go.Proofs.YtklgaldpcaogbaaGreatDoor.Mem Go.Proofs.YtklgaldpcaogbaaGreatDoor.Lex Go.Proofs.YtklgaldpcaogbaaGreatDoor.Rune Go.Proofs.YtklgaldpcaogbaaGreatDoor.PFnReadBlock Go.Proofs.YtklgaldpcaogbaaGreatDoorW.PrintWords Go.Proofs.YtklgaldpcaogbaaGreatDoorW.PrintLast

theorem body_kd {w : World} {bb : Nat} {s : ByteArray} (h : BodyAt w bb s) (hs : s.size ≤ 140737488351232) : Kd.C (Kd.int .u8) w (some ⟨bb, 0, none⟩) (bytesOf s).length (bytesOf s) := by
  refine ⟨rfl, by rw [bytesOf_length]; omega, fun hn => ⟨_, rfl, fun j p hp => ⟨[.int .u8 p], rfl, rfl, fun i u hu => ?_⟩⟩⟩
  have hj : j < s.size := by have := (List.getElem?_eq_some_iff.1 hp).1; rwa [bytesOf_length] at this
  have hi : i = 0 := by have := (List.getElem?_eq_some_iff.1 hu).1; simpa using this
  subst hi
  simp only [List.getElem?_cons_zero, Option.some.injEq] at hu
  subst hu
  have e : p = bt s j := by
    rw [← rd_bytesOf s j]
    unfold rd
    simp [List.getD_eq_getElem?_getD, hp]
  show w.cell? ((⟨bb, 0, none⟩ : Addr).add (j * 1 + 0)) = _
  rw [add_plain, e]
  simpa using h j hj

/-- What a call of zzLineEnds leaves: line ends in new memory. -/
def Ends (w : World) (n : Int) (A : Option Addr) (m : Nat) : Prop := ∀ k : Nat, k < m → ∃ ad g0 : Addr, ∃ c : Nat, ∃ a b : Int, A = some ad ∧ w.cell? (ad.add k) = some (.slice (some g0) 2 c) ∧ 2 ≤ c ∧ w.cell? g0 = some (.int .i64 a) ∧ w.cell? (g0.add 1) = some (.int .i64 b) ∧ 0 ≤ a ∧ a ≤ b ∧ b ≤ n

theorem ends_of {w : World} {n : Int} {A : Option Addr} {r : List (List Int)} (h : (Kd.slice 3 (Kd.int .i64)).C w A r.length r) (hp : ∀ x ∈ r, ErrP.Pair n x) : Ends w n A r.length := by
  intro k hk
  obtain ⟨ad, e, hc⟩ := h.2.2 (by omega)
  obtain ⟨c, hl, hK, hcell⟩ := hc k _ (List.getElem?_eq_getElem hk)
  obtain ⟨a, b, hx, h0, h1, h2⟩ := hp _ (List.getElem_mem hk)
  rw [hx] at hK
  obtain ⟨A', c', rfl, hcc, hC⟩ := hK
  obtain ⟨g0, e0, hg⟩ := hC.2.2 (by simp)
  subst e0
  have q0 := hcell 0 _ rfl
  obtain ⟨c0, _, hk0, hz0⟩ := hg 0 a rfl
  obtain ⟨c1, _, hk1, hz1⟩ := hg 1 b rfl
  have z0 : w.cell? g0 = some (.int .i64 a) := by
    have := hz0 0 (.int .i64 a) (by rw [hk0]; rfl)
    have e : g0.add (0 * (Kd.int IntKind.i64).sz + 0) = g0 := by simp [Addr.add]
    rwa [e] at this
  have z1 : w.cell? (g0.add 1) = some (.int .i64 b) := by
    have := hz1 0 (.int .i64 b) (by rw [hk1]; rfl)
    exact this
  exact ⟨ad, g0, c', a, b, e, by simpa [Kd.slice] using q0, by simpa using hcc, z0, z1, h0, h1, h2⟩

theorem lineEnds_any (bb cap : Nat) (s : ByteArray) (w : World) (h : BodyAt w bb s) (hs : s.size ≤ 1000000000) (hcap : s.size ≤ cap) :
    Calls Tryz.prog 54 #[.slice (some ⟨bb, 0, none⟩) s.size cap] w fun e w' =>
      ∃ A c m, e = .returned (.slice A m c) ∧ m ≤ c ∧ m ≤ 1000000000000 ∧ Ends w' s.size A m ∧ Below w.heap.size w w' := by
  obtain ⟨k, r, hr, hp, hlen⟩ := ErrP.line_ends (bytesOf s) (by rw [bytesOf_length]; exact hs)
  have hc := location_zzLineEnds.calls k (some ⟨bb, 0, none⟩) cap (bytesOf s) r w (body_kd h (by omega)) (by rw [bytesOf_length]; exact hcap) hr
  rw [bytesOf_length] at hc
  refine hc.mono ?_
  rintro e w' ⟨v0, rfl, hS, hb⟩
  obtain ⟨A, c, rfl, hcc, hC⟩ := Kd.R_reads (Kd.S_R hS)
  rw [bytesOf_length] at hp hlen
  exact ⟨A, c, r.length, rfl, hcc, by omega, ends_of hC hp, hb⟩

theorem two_kept2 {w w1 : World} {t : TypeId} {x0 x1 : Value} (hb : Below (w.heap.size + 1) (w.alloc (.cells #[x0, x1] t)) w1) :
    w1.cell? ⟨w.heap.size, 0, none⟩ = some x0 ∧ w1.cell? ⟨w.heap.size, 1, none⟩ = some x1 ∧ w1.frozen? ⟨w.heap.size, 0, none⟩ = false ∧ w1.frozen? ⟨w.heap.size, 1, none⟩ = false := by
  have h := Blk.below (Blk.new w t #[x0, x1]) hb (by omega)
  exact ⟨(h.cell 0).trans rfl, (h.cell 1).trans rfl, h.frozen 0, h.frozen 1⟩
theorem below_two2 {w w1 : World} {x0 x1 : Value} (h : Below w.heap.size w w1) : Below w.heap.size w ((w1.setCell ⟨w.heap.size, 0, none⟩ x0).setCell ⟨w.heap.size, 1, none⟩ x1) :=
  (h.setCell (p := ⟨w.heap.size, 0, none⟩) (Nat.le_refl _) _).setCell (p := ⟨w.heap.size, 1, none⟩) (Nat.le_refl _) _

/-- A location, and nothing below changed. -/
def SomeLoc (w : World) (e : Ending) (w' : World) : Prop := ∃ a b : Int, e = .returned (.agg #[.int .i64 a, .int .i64 b]) ∧ Below w.heap.size w w'

set_option maxRecDepth 100000 in
set_option maxHeartbeats 4000000 in
/-- GetLocation: some line, some column. -/
theorem getLocation_any (sb bb cap : Nat) (pos : Int) (s : ByteArray) (w : World) (h : BodyAt w bb s) (h0 : w.cell? ⟨sb, 0, none⟩ = some (.slice (some ⟨bb, 0, none⟩) s.size cap)) (hs : s.size ≤ 1000000000) (hcap : s.size ≤ cap) :
    Calls Tryz.prog 51 #[.pointer (some ⟨sb, 0, none⟩), .int .i64 pos] w fun e w' => SomeLoc w e w' := by
  have hsb : sb < w.heap.size := World.block_lt_of_cell? w _ h0
  have HL := Aside0.mk (fun W (hb : Below w.heap.size w W) => lineEnds_any bb cap s W (h.below hb) hs hcap)
  clear h
  go_enter Tryz.func51, Tryz.ntmps51
  go_wp2_with fail
  refine (HL.out _ (by exact below_alloc (below_alloc (Below.refl _ _) _) _)).mono ?_
  rintro e w2 ⟨A, c, m, rfl, hmc, hm, hE, hb⟩
  have hb1 : Below (w.heap.size + 1) _ w2 := (((Below.refl _ _).alloc (by simp) _).trans (hb.mono (by simp)))
  obtain ⟨r0, r1, z0, z1⟩ := two_kept2 hb1
  have hs0 : w2.cell? ⟨sb, 0, none⟩ = some (.slice (some ⟨bb, 0, none⟩) s.size cap) := by
    have := (below_one (by simpa using hb1)).cell (p := ⟨sb, 0, none⟩) hsb
    rw [this]; exact h0
  have HB := Aside0.mk (below_one (w := w) (by simpa using hb1))
  clear hb hb1 HL h0
  have HE := Aside0.mk hE
  clear hE
  go_wp2_with fail
  go_loopw [6, 7, 26] (fun l c i wr => ∃ (x y : Int) (k n : Nat), l = .int .i64 x ∧ c = .int .i64 y ∧ i = .int .i64 k ∧ k ≤ m ∧ wr = w2.drewN n) (fun _ _ i _ => m - (intOf i).toNat)
  case atStart => exact ⟨_, _, 0, 0, rfl, rfl, rfl, by omega, rfl⟩
  case round =>
    obtain ⟨x, y, k, n, rfl, rfl, rfl, hk, rfl⟩ := hrel
    by_cases hlt : k < m
    · obtain ⟨ad, g0, cc, a, b', rfl, e1, ecc, e2, e3, e4, e5, e6⟩ := HE.out k hlt
      have hlti : (k : Int) < (m : Int) := by omega
      have hcci : (2 : Int) ≤ (cc : Int) := by omega
      by_cases hpos : a < pos
      · have hp : decide (a < pos) = true := decide_eq_true hpos
        obtain ⟨a, rfl⟩ := Int.eq_ofNat_of_zero_le e4
        obtain ⟨b', rfl⟩ := Int.eq_ofNat_of_zero_le (by omega : 0 ≤ b')
        have hab : (a : Int) ≤ (cap : Int) := by omega
        have hbb : b' ≤ (cap : Int) := by omega
        have e3' : w2.cell? { block := g0.block, off := g0.off + 1 } = some (.int .i64 b') := e3
        go_wp2_with fail
        go_quiet (fail)
        go_wp2
        go_roundw
        case rel => exact ⟨_, _, k + 1, _, rfl, rfl, by go_num, by omega, rfl⟩
        case measure => simp [intOf]; omega
      · have hp : decide (a < pos) = false := decide_eq_false hpos
        go_wp2_with fail
        refine bodyPost_ret (v := .agg #[.int .i64 x, .int .i64 y]) (by simp [results, Tryz.results51, go_sem, r0, r1]) rfl ⟨x, y, rfl, below_two2 (pw_below_drewN HB.out _)⟩
    · go_wp2_with fail
      refine bodyPost_ret (v := .agg #[.int .i64 x, .int .i64 y]) (by simp [results, Tryz.results51, go_sem, r0, r1]) rfl ⟨x, y, rfl, below_two2 (pw_below_drewN HB.out _)⟩
end Go.Proofs.YtklgaldpcaogbaaGreatDoor.Err
