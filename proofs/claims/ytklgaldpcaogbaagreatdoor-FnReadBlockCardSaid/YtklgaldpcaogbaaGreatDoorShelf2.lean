/-
  DERIVED: THE SHELF's CONTRACTS AT THIS DUMP, IN PLAIN WORDS (tools/lay-plain.mjs out of 'TryzShelf2.lean', which tools/lay-shelf.mjs wrote): THE SAME DECLARATIONS UNDER THE SAME NAMES: 'import', 'namespace', 'open', 'def', 'theorem' AND NOTHING ELSE: no command of the shelf's: FOR A HAND-IN. Each laying: the table of numbers ('.._ren') and one theorem, a field a fact of the dump's own or the kernel's comparison; each contract: ONE APPLICATION.
-/
import Derived.Shelf.Bytes.WriteAny
import Derived.Shelf.Bytes.String
import Derived.Shelf.Strings.OnBuilder
import Derived.Test.YtklgaldpcaogbaaGreatDoorProg
namespace Go.Proofs
open Go.Shelf
def Tryz.laysM180_ren : Go.Shelf.Ren := ⟨fun | 180 => 26 | 251 => 32 | 252 => 33 | 181 => 40 | 184 => 41 | 290 => 42 | 324 => 47 | n => n, fun | 130 => 74 | 37 => 53 | 3 => 3 | 75 => 38 | 0 => 0 | 93 => 64 | 91 => 62 | 131 => 75 | 4 => 4 | 20 => 20 | 5 => 5 | 80 => 69 | 9 => 9 | n => n, fun | 14 => 0 | n => n⟩
theorem Tryz.laysM180 : Go.Proofs.LaysM.n180 Tryz.prog Tryz.laysM180_ren := {
  mixed := by kernel_rfl
  f180 := Tryz.func26.trans (congrArg some (by kernel_rfl))
  f181 := Tryz.func40.trans (congrArg some (by kernel_rfl))
  f184 := Tryz.func41.trans (congrArg some (by kernel_rfl))
  f251 := Tryz.func32.trans (congrArg some (by kernel_rfl))
  f252 := Tryz.func33.trans (congrArg some (by kernel_rfl))
  f290 := Tryz.func42.trans (congrArg some (by kernel_rfl))
  f324 := Tryz.func47.trans (congrArg some (by kernel_rfl))
  t0 := Tryz.underlying0
  a0 := Tryz.isAgg0
  z0 := Tryz.sizeOf0
  v0 := Tryz.zeroValue0
  t3 := Tryz.underlying3
  a3 := Tryz.isAgg3
  z3 := Tryz.sizeOf3
  v3 := Tryz.zeroValue3
  t4 := Tryz.underlying4
  a4 := Tryz.isAgg4
  z4 := Tryz.sizeOf4
  v4 := Tryz.zeroValue4
  t20 := Tryz.underlying20
  a20 := Tryz.isAgg20
  z20 := Tryz.sizeOf20
  v20 := Tryz.zeroValue20
  t37 := Tryz.underlying53
  a37 := Tryz.isAgg53
  z37 := Tryz.sizeOf53
  v37 := Tryz.zeroValue53
  t75 := Tryz.underlying38
  a75 := Tryz.isAgg38
  z75 := Tryz.sizeOf38
  v75 := Tryz.zeroValue38
  t91 := Tryz.underlying62
  a91 := Tryz.isAgg62
  z91 := Tryz.sizeOf62
  v91 := Tryz.zeroValue62
  t93 := Tryz.underlying64
  a93 := Tryz.isAgg64
  z93 := Tryz.sizeOf64
  v93 := Tryz.zeroValue64
  t130 := Tryz.underlying74
  a130 := Tryz.isAgg74
  z130 := Tryz.sizeOf74
  v130 := Tryz.zeroValue74
  t131 := Tryz.underlying75
  a131 := Tryz.isAgg75
  z131 := Tryz.sizeOf75
  v131 := Tryz.zeroValue75
  g14 := by kernel_rfl
  t5 := Tryz.underlying5
  a5 := Tryz.isAgg5
  z5 := Tryz.sizeOf5
  v5 := Tryz.zeroValue5
  t9 := Tryz.underlying9
  a9 := Tryz.isAgg9
  z9 := Tryz.sizeOf9
  v9 := Tryz.zeroValue9
  t80 := Tryz.underlying69
  a80 := Tryz.isAgg69
  z80 := Tryz.sizeOf69
  v80 := Tryz.zeroValue69
  i0 := by kernel_rfl
  i3 := by kernel_rfl
  i4 := by kernel_rfl
  i5 := by kernel_rfl
  i9 := by kernel_rfl
  i20 := by kernel_rfl
  i37 := by kernel_rfl
  i75 := by kernel_rfl
  i80 := by kernel_rfl
  i91 := by kernel_rfl
  i93 := by kernel_rfl
  i130 := by kernel_rfl
  i131 := by kernel_rfl
  m14 := by kernel_rfl }
open Go.RowKit in
theorem Tryz.Buffer_Write (B b : Nat) (bs cs : List Value) (a : Addr) (n c : Nat) (w : World) (h : Lib.IsBuffer 64 5 B b bs w) (hBw : B ≤ w.heap.size) (h1 : ∀ v ∈ bs, v.oneCell' = true)
    (hn : cs.length = n) (hab : a.block ≠ b) (hsrc : ∀ j v, cs[j]? = some v → w.cell? (a.add j) = some v) (h1c : ∀ v ∈ cs, v.oneCell' = true) (hlim : bs.length + n ≤ 140737488355328) :
    Calls Tryz.prog 26 #[.pointer (some ⟨b, 0, none⟩), .slice (some a) n c] w fun e w' => e = .returned (.tuple #[.int .i64 n, .nilIface]) ∧ Lib.IsBuffer 64 5 B b (bs ++ cs) w' ∧ Below B w w' ∧ Lib.OthersKept 5 (some b) w w' := Any.Buffer_Write_any Tryz.laysM180 B b bs cs a n c w h hBw h1 hn hab hsrc h1c hlim
def Tryz.laysM182_ren : Go.Shelf.Ren := ⟨fun | 182 => 28 | n => n, fun | 130 => 74 | 9 => 9 | 4 => 4 | 0 => 0 | 93 => 64 | 37 => 53 | 3 => 3 | 91 => 62 | 5 => 5 | n => n, fun | n => n⟩
theorem Tryz.laysM182 : Go.Proofs.LaysM.n182 Tryz.prog Tryz.laysM182_ren := {
  mixed := by kernel_rfl
  f182 := Tryz.func28.trans (congrArg some (by kernel_rfl))
  t0 := Tryz.underlying0
  a0 := Tryz.isAgg0
  z0 := Tryz.sizeOf0
  v0 := Tryz.zeroValue0
  t3 := Tryz.underlying3
  a3 := Tryz.isAgg3
  z3 := Tryz.sizeOf3
  v3 := Tryz.zeroValue3
  t4 := Tryz.underlying4
  a4 := Tryz.isAgg4
  z4 := Tryz.sizeOf4
  v4 := Tryz.zeroValue4
  t9 := Tryz.underlying9
  a9 := Tryz.isAgg9
  z9 := Tryz.sizeOf9
  v9 := Tryz.zeroValue9
  t37 := Tryz.underlying53
  a37 := Tryz.isAgg53
  z37 := Tryz.sizeOf53
  v37 := Tryz.zeroValue53
  t93 := Tryz.underlying64
  a93 := Tryz.isAgg64
  z93 := Tryz.sizeOf64
  v93 := Tryz.zeroValue64
  t130 := Tryz.underlying74
  a130 := Tryz.isAgg74
  z130 := Tryz.sizeOf74
  v130 := Tryz.zeroValue74
  t5 := Tryz.underlying5
  a5 := Tryz.isAgg5
  z5 := Tryz.sizeOf5
  v5 := Tryz.zeroValue5
  t91 := Tryz.underlying62
  a91 := Tryz.isAgg62
  z91 := Tryz.sizeOf62
  v91 := Tryz.zeroValue62
  i0 := by kernel_rfl
  i3 := by kernel_rfl
  i4 := by kernel_rfl
  i5 := by kernel_rfl
  i9 := by kernel_rfl
  i37 := by kernel_rfl
  i91 := by kernel_rfl
  i93 := by kernel_rfl
  i130 := by kernel_rfl }
open Go.RowKit in
theorem Tryz.Buffer_String (B b : Nat) (l : List UInt8) (w : World) (h : Lib.IsBuffer 64 5 B b (Lib.byteCells l) w) :
    Calls Tryz.prog 28 #[.pointer (some ⟨b, 0, none⟩)] w fun e w' => e = .returned (.string ⟨l.toArray⟩) ∧ ∃ n, w' = w.drewN n := Any.Buffer_String Tryz.laysM182 B b l w h
def Tryz.lays156_ren : Go.Shelf.Ren := ⟨fun | 156 => 37 | 165 => 43 | 166 => 44 | 169 => 45 | 240 => 48 | 241 => 49 | 276 => 52 | 277 => 53 | n => n, fun | 31 => 57 | 9 => 9 | 3 => 3 | 4 => 4 | 0 => 0 | 20 => 20 | 72 => 86 | 76 => 67 | 70 => 84 | 37 => 53 | 75 => 38 | 127 => 94 | 164 => 109 | 5 => 5 | 80 => 69 | n => n, fun | n => n⟩
theorem Tryz.lays156 : Go.Proofs.Lays.n156 Tryz.prog Tryz.lays156_ren := {
  mixed := by kernel_rfl
  f156 := Tryz.func37.trans (congrArg some (by kernel_rfl))
  f165 := Tryz.func43.trans (congrArg some (by kernel_rfl))
  f166 := Tryz.func44.trans (congrArg some (by kernel_rfl))
  f169 := Tryz.func45.trans (congrArg some (by kernel_rfl))
  f240 := Tryz.func48.trans (congrArg some (by kernel_rfl))
  f241 := Tryz.func49.trans (congrArg some (by kernel_rfl))
  f276 := Tryz.func52.trans (congrArg some (by kernel_rfl))
  f277 := Tryz.func53.trans (congrArg some (by kernel_rfl))
  t0 := Tryz.underlying0
  a0 := Tryz.isAgg0
  z0 := Tryz.sizeOf0
  v0 := Tryz.zeroValue0
  t3 := Tryz.underlying3
  a3 := Tryz.isAgg3
  z3 := Tryz.sizeOf3
  v3 := Tryz.zeroValue3
  t4 := Tryz.underlying4
  a4 := Tryz.isAgg4
  z4 := Tryz.sizeOf4
  v4 := Tryz.zeroValue4
  t9 := Tryz.underlying9
  a9 := Tryz.isAgg9
  z9 := Tryz.sizeOf9
  v9 := Tryz.zeroValue9
  t20 := Tryz.underlying20
  a20 := Tryz.isAgg20
  z20 := Tryz.sizeOf20
  v20 := Tryz.zeroValue20
  t31 := Tryz.underlying57
  a31 := Tryz.isAgg57
  z31 := Tryz.sizeOf57
  v31 := Tryz.zeroValue57
  t37 := Tryz.underlying53
  a37 := Tryz.isAgg53
  z37 := Tryz.sizeOf53
  v37 := Tryz.zeroValue53
  t70 := Tryz.underlying84
  a70 := Tryz.isAgg84
  z70 := Tryz.sizeOf84
  v70 := Tryz.zeroValue84
  t72 := Tryz.underlying86
  a72 := Tryz.isAgg86
  z72 := Tryz.sizeOf86
  v72 := Tryz.zeroValue86
  t75 := Tryz.underlying38
  a75 := Tryz.isAgg38
  z75 := Tryz.sizeOf38
  v75 := Tryz.zeroValue38
  t76 := Tryz.underlying67
  a76 := Tryz.isAgg67
  z76 := Tryz.sizeOf67
  v76 := Tryz.zeroValue67
  t127 := Tryz.underlying94
  a127 := Tryz.isAgg94
  z127 := Tryz.sizeOf94
  v127 := Tryz.zeroValue94
  t164 := Tryz.underlying109
  a164 := Tryz.isAgg109
  z164 := Tryz.sizeOf109
  v164 := Tryz.zeroValue109 }
theorem Tryz.Builder_Extra_156 : Builder.Extra Tryz.prog Tryz.lays156_ren := {
  sizeBuilder := by kernel_rfl
  liesBuilder := by kernel_rfl
  t5 := Tryz.underlying5
  a5 := Tryz.isAgg5
  z5 := Tryz.sizeOf5
  v5 := Tryz.zeroValue5
  infoByte := by kernel_rfl
  cellsByte := by kernel_rfl
  sizeByte := by kernel_rfl
  neB5 := by decide }
open Go.RowKit in
theorem Tryz.strings_Join_none (a : Option Addr) (c : Nat) (sep : ByteArray) (w : World) :
    Calls Tryz.prog 37 #[.slice a 0 c, .string sep] w fun e w' => e = .returned (.string ⟨#[]⟩) ∧ w' = w := Any.strings_Join_none Tryz.lays156 Tryz.Builder_Extra_156 a c sep w
open Go.RowKit in
theorem Tryz.strings_Join (bk o c : Nat) (xs : List ByteArray) (sep : ByteArray) (w : World) (hcells : ∀ (j : Nat) x, xs[j]? = some x → w.cell? ⟨bk, o + j, none⟩ = some (.string x)) (hbk : bk < w.heap.size) (hN : xs.length ≤ 140737488355328) (hcap : xs.length ≤ c) (hlen : (Lib.join (xs.map (·.data.toList)) sep.data.toList).length ≤ 140737488355328) :
    Calls Tryz.prog 37 #[.slice (some ⟨bk, o, none⟩) xs.length c, .string sep] w fun e w' => e = .returned (.string ⟨(Lib.join (xs.map (·.data.toList)) sep.data.toList).toArray⟩) ∧ Below w.heap.size w w' := Any.strings_Join Tryz.lays156 Tryz.Builder_Extra_156 bk o c xs sep w hcells hbk hN hcap hlen
end Go.Proofs
