import Derived.Test.YtjoagdldbmlenaaGreatDoorProg
import Derived.Below
import Derived.Deep.Draws
import Derived.Deep.AppendLies
import Derived.Maps.AppendAt
import Derived.OwnWalk
import Derived.Laws.BytesArg
import Derived.Laws.MakeOwn
import Derived.Laws.OwnMore
import Derived.Deep.OwnRows
import Derived.Tactics
import Derived.Lib.ConvBytes
import Derived.Laws.Slices
import Derived.WalkKit
import Derived.KernelRfl
import Derived.RowKit3
import Derived.Deep.LoopGhost
import Derived.Deep.QuietTactic
import Derived.BigQuiet
import Derived.WideLaws
import Derived.Deep.DeepCutAuto
import Derived.Deep.CutBlock
import Derived.Deep.RegionHeld3
import Derived.Laws.Rows
import Derived.Lib.AppendStr
import Derived.ArgAppend
import Derived.Laws.IdiomCopy
import Derived.OrdersHeld
import Derived.Laws.BitsLemmas
import Derived.RowKit
import Derived.Test.YtjoagdldbmlenaaGreatDoorVW1
import Derived.Test.YtjoagdldbmlenaaGreatDoorVW2
set_option maxRecDepth 100000
set_option maxHeartbeats 8000000
set_option linter.unusedVariables false
set_option linter.unusedSimpArgs false
namespace Go.Proofs.YtjoagdldbmlenaaGreatDoor.PFnReadDirectives
open Go.RowKit Go.Proofs.YtjoagdldbmlenaaGreatDoorW.PrintWords Go.Proofs.YtjoagdldbmlenaaGreatDoorW.PrintLast Go.Proofs.YtjoagdldbmlenaaGreatDoorW.PrintMore
attribute [local go_sem] max2_int min2_int max_two min_two max_three min_three max_four min_four
def errW : Option Int → Value
 | none => .nilIface
 | some c => .iface 0 (.int .i64 c)
theorem errW_none : errW none = .nilIface := rfl
theorem errW_some (c : Int) : errW (some c) = .iface 0 (.int .i64 c) := rfl
theorem info9 : (Tryz.prog.info? 9).map (fun i => (i.zero, i.size, i.bytes)) = some (some (.string ⟨#[]⟩), 1, 16) := by kernel_rfl
theorem info25 : (Tryz.prog.info? 25).map (fun i => (i.zero, i.size, i.bytes)) = some (some (.slice none 0 0), 1, 24) := by kernel_rfl
theorem info51 : (Tryz.prog.info? 51).map (fun i => (i.zero, i.size, i.bytes)) = some (some (.agg #[(.int .i64 0), (.string ⟨#[]⟩), (.string ⟨#[]⟩), (.string ⟨#[]⟩), (.int .i64 0), (.int .i64 0)]), 6, 72) := by kernel_rfl
structure S49 where
 f0 : Int
 f1 : ByteArray
 f2 : Int
 f3 : Int
def z49 : S49 := ⟨(0 : Int), (⟨#[]⟩ : ByteArray), (0 : Int), (0 : Int)⟩
def k49 : Kd S49 := Kd.iso (Kd.pair (Kd.int .i64) (Kd.pair Kd.string (Kd.pair (Kd.int .i64) (Kd.int .i64)))) (fun x : S49 => (x.f0, x.f1, x.f2, x.f3))
theorem k49_open {w : World} {x : S49} {cs : List Value} (h : k49.K w x cs) : cs = [.int .i64 x.f0, .string x.f1, .int .i64 x.f2, .int .i64 x.f3] := by
 obtain ⟨_, _, rfl, rfl, ⟨_, _, rfl, rfl, ⟨_, _, rfl, rfl, rfl⟩⟩⟩ := h
 exact rfl
def rd_T49 (xs : List S49) (i : Int) : S49 := xs.getD i.toNat z49
theorem at_T49 {w : World} {A : Option Addr} {n : Nat} {xs : List S49} (h : Kd.C k49 w A n xs) (i : Int) (h0 : 0 ≤ i) (h1 : i < n) : ∃ ad , A = some ad ∧ w.cell? (ad.add (i.toNat * 4)) = some (.int .i64 (rd_T49 xs i).f0) ∧ w.cell? ⟨(ad.add (i.toNat * 4)).block, (ad.add (i.toNat * 4)).off + 1, none⟩ = some (.string (rd_T49 xs i).f1) ∧ w.cell? ⟨(ad.add (i.toNat * 4)).block, (ad.add (i.toNat * 4)).off + 2, none⟩ = some (.int .i64 (rd_T49 xs i).f2) ∧ w.cell? ⟨(ad.add (i.toNat * 4)).block, (ad.add (i.toNat * 4)).off + 3, none⟩ = some (.int .i64 (rd_T49 xs i).f3) := by
 obtain ⟨ad, c, e, _, hK, hc0⟩ := Kd.C_get h z49 i h0 h1
 have hc : ∀ j u, c[j]? = some u → w.cell? (ad.add (i.toNat * 4 + j)) = some u := hc0
 obtain rfl := k49_open hK
 exact ⟨ad, e, hc 0 _ rfl, by rw [← add_field _ _ 1 (by omega)]; exact hc 1 _ rfl, by rw [← add_field _ _ 2 (by omega)]; exact hc 2 _ rfl, by rw [← add_field _ _ 3 (by omega)]; exact hc 3 _ rfl⟩
structure S51 where
 f0 : Int
 f1 : ByteArray
 f2 : ByteArray
 f3 : ByteArray
 f4 : Int
 f5 : Int
def z51 : S51 := ⟨(0 : Int), (⟨#[]⟩ : ByteArray), (⟨#[]⟩ : ByteArray), (⟨#[]⟩ : ByteArray), (0 : Int), (0 : Int)⟩
def k51 : Kd S51 := Kd.iso (Kd.pair (Kd.int .i64) (Kd.pair Kd.string (Kd.pair Kd.string (Kd.pair Kd.string (Kd.pair (Kd.int .i64) (Kd.int .i64)))))) (fun x : S51 => (x.f0, x.f1, x.f2, x.f3, x.f4, x.f5))
theorem k51_open {w : World} {x : S51} {cs : List Value} (h : k51.K w x cs) : cs = [.int .i64 x.f0, .string x.f1, .string x.f2, .string x.f3, .int .i64 x.f4, .int .i64 x.f5] := by
 obtain ⟨_, _, rfl, rfl, ⟨_, _, rfl, rfl, ⟨_, _, rfl, rfl, ⟨_, _, rfl, rfl, ⟨_, _, rfl, rfl, rfl⟩⟩⟩⟩⟩ := h
 exact rfl
theorem k51_openM {w : World} {base : Nat} {ok : Nat → Prop} {x : S51} {cs : List Value} (h : k51.M w base ok x cs) : cs = [.int .i64 x.f0, .string x.f1, .string x.f2, .string x.f3, .int .i64 x.f4, .int .i64 x.f5] := by
 obtain ⟨_, _, rfl, rfl, ⟨_, _, rfl, rfl, ⟨_, _, rfl, rfl, ⟨_, _, rfl, rfl, ⟨_, _, rfl, rfl, rfl⟩⟩⟩⟩⟩ := h
 exact rfl
theorem k51_mkM (w : World) (base : Nat) (ok : Nat → Prop) (x : S51)  : k51.M w base ok x [.int .i64 x.f0, .string x.f1, .string x.f2, .string x.f3, .int .i64 x.f4, .int .i64 x.f5] := ⟨[.int .i64 x.f0], [.string x.f1, .string x.f2, .string x.f3, .int .i64 x.f4, .int .i64 x.f5], rfl, rfl, ⟨[.string x.f1], [.string x.f2, .string x.f3, .int .i64 x.f4, .int .i64 x.f5], rfl, rfl, ⟨[.string x.f2], [.string x.f3, .int .i64 x.f4, .int .i64 x.f5], rfl, rfl, ⟨[.string x.f3], [.int .i64 x.f4, .int .i64 x.f5], rfl, rfl, ⟨[.int .i64 x.f4], [.int .i64 x.f5], rfl, rfl, rfl⟩⟩⟩⟩⟩
def rd_T51 (xs : List S51) (i : Int) : S51 := xs.getD i.toNat z51
theorem at_T51 {w : World} {A : Option Addr} {n : Nat} {xs : List S51} (h : Kd.C k51 w A n xs) (i : Int) (h0 : 0 ≤ i) (h1 : i < n) : ∃ ad , A = some ad ∧ w.cell? (ad.add (i.toNat * 6)) = some (.int .i64 (rd_T51 xs i).f0) ∧ w.cell? ⟨(ad.add (i.toNat * 6)).block, (ad.add (i.toNat * 6)).off + 1, none⟩ = some (.string (rd_T51 xs i).f1) ∧ w.cell? ⟨(ad.add (i.toNat * 6)).block, (ad.add (i.toNat * 6)).off + 2, none⟩ = some (.string (rd_T51 xs i).f2) ∧ w.cell? ⟨(ad.add (i.toNat * 6)).block, (ad.add (i.toNat * 6)).off + 3, none⟩ = some (.string (rd_T51 xs i).f3) ∧ w.cell? ⟨(ad.add (i.toNat * 6)).block, (ad.add (i.toNat * 6)).off + 4, none⟩ = some (.int .i64 (rd_T51 xs i).f4) ∧ w.cell? ⟨(ad.add (i.toNat * 6)).block, (ad.add (i.toNat * 6)).off + 5, none⟩ = some (.int .i64 (rd_T51 xs i).f5) := by
 obtain ⟨ad, c, e, _, hK, hc0⟩ := Kd.C_get h z51 i h0 h1
 have hc : ∀ j u, c[j]? = some u → w.cell? (ad.add (i.toNat * 6 + j)) = some u := hc0
 obtain rfl := k51_open hK
 exact ⟨ad, e, hc 0 _ rfl, by rw [← add_field _ _ 1 (by omega)]; exact hc 1 _ rfl, by rw [← add_field _ _ 2 (by omega)]; exact hc 2 _ rfl, by rw [← add_field _ _ 3 (by omega)]; exact hc 3 _ rfl, by rw [← add_field _ _ 4 (by omega)]; exact hc 4 _ rfl, by rw [← add_field _ _ 5 (by omega)]; exact hc 5 _ rfl⟩
def rd_L4 (xs : List (List S51)) (i : Int) : (List S51) := xs.getD i.toNat ([] : List S51)
theorem at_L4 {w : World} {A : Option Addr} {n : Nat} {xs : List (List S51)} (h : Kd.C (Kd.slice 51 k51) w A n xs) (i : Int) (h0 : 0 ≤ i) (h1 : i < n) : ∃ ad A0 c0, A = some ad ∧ w.cell? (ad.add i.toNat) = some (.slice A0 (rd_L4 xs i).length c0) ∧ (rd_L4 xs i).length ≤ c0 ∧ k51.C w A0 (rd_L4 xs i).length (rd_L4 xs i) := by
 obtain ⟨ad, c, e, _, hK, hc0⟩ := Kd.C_get h ([] : List S51) i h0 h1
 have hc : ∀ j u, c[j]? = some u → w.cell? (ad.add (i.toNat * 1 + j)) = some u := hc0
 obtain ⟨A0, c0, rfl, l0, g0⟩ := hK
 exact ⟨ad, A0, c0, e, by have hq := hc 0 _ rfl; rwa [Nat.mul_one, Nat.add_zero] at hq, l0, g0⟩
end Go.Proofs.YtjoagdldbmlenaaGreatDoor.PFnReadDirectives
