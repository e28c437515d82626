import Derived.Test.YtjeldgkbiihokaaGreatDoorProg
import Derived.Below
import Derived.Deep.Draws
import Derived.Deep.AppendLies
import Derived.Maps.AppendAt
import Derived.OwnWalk
import Derived.Laws.BytesArg
import Derived.Laws.MakeOwn
import Derived.Laws.OwnMore
import Derived.Deep.OwnRows
import Derived.Tactics
import Derived.Lib.ConvBytes
import Derived.Laws.Slices
import Derived.WalkKit
import Derived.KernelRfl
import Derived.RowKit3
import Derived.Deep.LoopGhost
import Derived.Deep.QuietTactic
import Derived.BigQuiet
import Derived.WideLaws
import Derived.Deep.DeepCutAuto
import Derived.Deep.CutBlock
import Derived.Deep.RegionHeld3
import Derived.Laws.Rows
import Derived.Lib.AppendStr
import Derived.ArgAppend
import Derived.Laws.IdiomCopy
import Derived.OrdersHeld
import Derived.Laws.BitsLemmas
import Derived.RowKit
import Derived.Test.YtjeldgkbiihokaaGreatDoorVW1
import Derived.Test.YtjeldgkbiihokaaGreatDoorVW2
set_option maxRecDepth 100000
set_option maxHeartbeats 8000000
set_option linter.unusedVariables false
set_option linter.unusedSimpArgs false
namespace Go.Proofs.YtjeldgkbiihokaaGreatDoor.PFnReadValue
open Go.RowKit Go.Proofs.YtjeldgkbiihokaaGreatDoorW.PrintWords Go.Proofs.YtjeldgkbiihokaaGreatDoorW.PrintLast Go.Proofs.YtjeldgkbiihokaaGreatDoorW.PrintMore
attribute [local go_sem] max2_int min2_int max_two min_two max_three min_three max_four min_four
def errW : Option Int → Value
 | none => .nilIface
 | some c => .iface 0 (.int .i64 c)
theorem errW_none : errW none = .nilIface := rfl
theorem errW_some (c : Int) : errW (some c) = .iface 0 (.int .i64 c) := rfl
theorem info9 : (Tryz.prog.info? 9).map (fun i => (i.zero, i.size, i.bytes)) = some (some (.string ⟨#[]⟩), 1, 16) := by kernel_rfl
theorem info23 : (Tryz.prog.info? 23).map (fun i => (i.zero, i.size, i.bytes)) = some (some (.slice none 0 0), 1, 24) := by kernel_rfl
theorem info54 : (Tryz.prog.info? 54).map (fun i => (i.zero, i.size, i.bytes)) = some (some (.agg #[(.int .i64 0), (.string ⟨#[]⟩), (.string ⟨#[]⟩), (.string ⟨#[]⟩), (.int .i64 0), (.int .i64 0)]), 6, 72) := by kernel_rfl
structure S52 where
 f0 : Int
 f1 : ByteArray
 f2 : Int
 f3 : Int
def z52 : S52 := ⟨(0 : Int), (⟨#[]⟩ : ByteArray), (0 : Int), (0 : Int)⟩
def k52 : Kd S52 := Kd.iso (Kd.pair (Kd.int .i64) (Kd.pair Kd.string (Kd.pair (Kd.int .i64) (Kd.int .i64)))) (fun x : S52 => (x.f0, x.f1, x.f2, x.f3))
theorem k52_open {w : World} {x : S52} {cs : List Value} (h : k52.K w x cs) : cs = [.int .i64 x.f0, .string x.f1, .int .i64 x.f2, .int .i64 x.f3] := by
 obtain ⟨_, _, rfl, rfl, ⟨_, _, rfl, rfl, ⟨_, _, rfl, rfl, rfl⟩⟩⟩ := h
 exact rfl
def rd_T52 (xs : List S52) (i : Int) : S52 := xs.getD i.toNat z52
theorem at_T52 {w : World} {A : Option Addr} {n : Nat} {xs : List S52} (h : Kd.C k52 w A n xs) (i : Int) (h0 : 0 ≤ i) (h1 : i < n) : ∃ ad , A = some ad ∧ w.cell? (ad.add (i.toNat * 4)) = some (.int .i64 (rd_T52 xs i).f0) ∧ w.cell? ⟨(ad.add (i.toNat * 4)).block, (ad.add (i.toNat * 4)).off + 1, none⟩ = some (.string (rd_T52 xs i).f1) ∧ w.cell? ⟨(ad.add (i.toNat * 4)).block, (ad.add (i.toNat * 4)).off + 2, none⟩ = some (.int .i64 (rd_T52 xs i).f2) ∧ w.cell? ⟨(ad.add (i.toNat * 4)).block, (ad.add (i.toNat * 4)).off + 3, none⟩ = some (.int .i64 (rd_T52 xs i).f3) := by
 obtain ⟨ad, c, e, _, hK, hc0⟩ := Kd.C_get h z52 i h0 h1
 have hc : ∀ j u, c[j]? = some u → w.cell? (ad.add (i.toNat * 4 + j)) = some u := hc0
 obtain rfl := k52_open hK
 exact ⟨ad, e, hc 0 _ rfl, by rw [← add_field _ _ 1 (by omega)]; exact hc 1 _ rfl, by rw [← add_field _ _ 2 (by omega)]; exact hc 2 _ rfl, by rw [← add_field _ _ 3 (by omega)]; exact hc 3 _ rfl⟩
structure S54 where
 f0 : Int
 f1 : ByteArray
 f2 : ByteArray
 f3 : ByteArray
 f4 : Int
 f5 : Int
def z54 : S54 := ⟨(0 : Int), (⟨#[]⟩ : ByteArray), (⟨#[]⟩ : ByteArray), (⟨#[]⟩ : ByteArray), (0 : Int), (0 : Int)⟩
def k54 : Kd S54 := Kd.iso (Kd.pair (Kd.int .i64) (Kd.pair Kd.string (Kd.pair Kd.string (Kd.pair Kd.string (Kd.pair (Kd.int .i64) (Kd.int .i64)))))) (fun x : S54 => (x.f0, x.f1, x.f2, x.f3, x.f4, x.f5))
theorem k54_open {w : World} {x : S54} {cs : List Value} (h : k54.K w x cs) : cs = [.int .i64 x.f0, .string x.f1, .string x.f2, .string x.f3, .int .i64 x.f4, .int .i64 x.f5] := by
 obtain ⟨_, _, rfl, rfl, ⟨_, _, rfl, rfl, ⟨_, _, rfl, rfl, ⟨_, _, rfl, rfl, ⟨_, _, rfl, rfl, rfl⟩⟩⟩⟩⟩ := h
 exact rfl
theorem k54_openM {w : World} {base : Nat} {ok : Nat → Prop} {x : S54} {cs : List Value} (h : k54.M w base ok x cs) : cs = [.int .i64 x.f0, .string x.f1, .string x.f2, .string x.f3, .int .i64 x.f4, .int .i64 x.f5] := by
 obtain ⟨_, _, rfl, rfl, ⟨_, _, rfl, rfl, ⟨_, _, rfl, rfl, ⟨_, _, rfl, rfl, ⟨_, _, rfl, rfl, rfl⟩⟩⟩⟩⟩ := h
 exact rfl
theorem k54_mkM (w : World) (base : Nat) (ok : Nat → Prop) (x : S54)  : k54.M w base ok x [.int .i64 x.f0, .string x.f1, .string x.f2, .string x.f3, .int .i64 x.f4, .int .i64 x.f5] := ⟨[.int .i64 x.f0], [.string x.f1, .string x.f2, .string x.f3, .int .i64 x.f4, .int .i64 x.f5], rfl, rfl, ⟨[.string x.f1], [.string x.f2, .string x.f3, .int .i64 x.f4, .int .i64 x.f5], rfl, rfl, ⟨[.string x.f2], [.string x.f3, .int .i64 x.f4, .int .i64 x.f5], rfl, rfl, ⟨[.string x.f3], [.int .i64 x.f4, .int .i64 x.f5], rfl, rfl, ⟨[.int .i64 x.f4], [.int .i64 x.f5], rfl, rfl, rfl⟩⟩⟩⟩⟩
def rd_T54 (xs : List S54) (i : Int) : S54 := xs.getD i.toNat z54
theorem at_T54 {w : World} {A : Option Addr} {n : Nat} {xs : List S54} (h : Kd.C k54 w A n xs) (i : Int) (h0 : 0 ≤ i) (h1 : i < n) : ∃ ad , A = some ad ∧ w.cell? (ad.add (i.toNat * 6)) = some (.int .i64 (rd_T54 xs i).f0) ∧ w.cell? ⟨(ad.add (i.toNat * 6)).block, (ad.add (i.toNat * 6)).off + 1, none⟩ = some (.string (rd_T54 xs i).f1) ∧ w.cell? ⟨(ad.add (i.toNat * 6)).block, (ad.add (i.toNat * 6)).off + 2, none⟩ = some (.string (rd_T54 xs i).f2) ∧ w.cell? ⟨(ad.add (i.toNat * 6)).block, (ad.add (i.toNat * 6)).off + 3, none⟩ = some (.string (rd_T54 xs i).f3) ∧ w.cell? ⟨(ad.add (i.toNat * 6)).block, (ad.add (i.toNat * 6)).off + 4, none⟩ = some (.int .i64 (rd_T54 xs i).f4) ∧ w.cell? ⟨(ad.add (i.toNat * 6)).block, (ad.add (i.toNat * 6)).off + 5, none⟩ = some (.int .i64 (rd_T54 xs i).f5) := by
 obtain ⟨ad, c, e, _, hK, hc0⟩ := Kd.C_get h z54 i h0 h1
 have hc : ∀ j u, c[j]? = some u → w.cell? (ad.add (i.toNat * 6 + j)) = some u := hc0
 obtain rfl := k54_open hK
 exact ⟨ad, e, hc 0 _ rfl, by rw [← add_field _ _ 1 (by omega)]; exact hc 1 _ rfl, by rw [← add_field _ _ 2 (by omega)]; exact hc 2 _ rfl, by rw [← add_field _ _ 3 (by omega)]; exact hc 3 _ rfl, by rw [← add_field _ _ 4 (by omega)]; exact hc 4 _ rfl, by rw [← add_field _ _ 5 (by omega)]; exact hc 5 _ rfl⟩
def rd_L4 (xs : List (List S54)) (i : Int) : (List S54) := xs.getD i.toNat ([] : List S54)
theorem at_L4 {w : World} {A : Option Addr} {n : Nat} {xs : List (List S54)} (h : Kd.C (Kd.slice 54 k54) w A n xs) (i : Int) (h0 : 0 ≤ i) (h1 : i < n) : ∃ ad A0 c0, A = some ad ∧ w.cell? (ad.add i.toNat) = some (.slice A0 (rd_L4 xs i).length c0) ∧ (rd_L4 xs i).length ≤ c0 ∧ k54.C w A0 (rd_L4 xs i).length (rd_L4 xs i) := by
 obtain ⟨ad, c, e, _, hK, hc0⟩ := Kd.C_get h ([] : List S54) i h0 h1
 have hc : ∀ j u, c[j]? = some u → w.cell? (ad.add (i.toNat * 1 + j)) = some u := hc0
 obtain ⟨A0, c0, rfl, l0, g0⟩ := hK
 exact ⟨ad, A0, c0, e, by have hq := hc 0 _ rfl; rwa [Nat.mul_one, Nat.add_zero] at hq, l0, g0⟩
end Go.Proofs.YtjeldgkbiihokaaGreatDoor.PFnReadValue
