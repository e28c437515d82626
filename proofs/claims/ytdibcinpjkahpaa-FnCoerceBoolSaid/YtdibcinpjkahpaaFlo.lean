import Derived.Test.YtdibcinpjkahpaaProg
import Derived.Below
import Derived.WalkKit
import Derived.WalkSpells
import Derived.StillTactics
import Derived.OneCell
import Derived.Laws.FloatBits
import Derived.Laws.FloatArith
import Derived.Laws.Externs
import Derived.Deep.QuietTactic
import Derived.BigQuiet
import Derived.Outline
import Derived.Deep.RegionWith
import Derived.BigRegion
import Derived.Test.YtdibcinpjkahpaaWWords
namespace Go.Proofs.Ytdibcinpjkahpaa.Flo
set_option linter.unusedVariables false
set_option linter.unusedSimpArgs false
open Go.RowKit Go.Proofs.YtdibcinpjkahpaaW.PrintWords

theorem run_store_float {P : Program} {w : World} {a : Addr} {m : Mode} (k : FloatKind) (b : Nat) : (store a (.float k b) m).run P w = stored P w a (.float k b) m := run_store P w a _ m rfl
theorem run_bits (b : Nat) (w : World) : (callFunc 31 #[.float .f64 b]).run Try.prog w = .ok (.value (.int .u64 b)) w :=
  (run_callFunc_extern (e := Extern.MathFloatBits.float64bits) Try.func31 (by kernel_rfl) (by kernel_rfl) (by kernel_rfl) (by kernel_rfl) _ w).trans rfl
theorem run_from (n : Int) (w : World) : (callFunc 30 #[.int .u64 n]).run Try.prog w = .ok (.value (.float .f64 n.toNat)) w :=
  (run_callFunc_extern (e := Extern.MathFloatBits.float64frombits) Try.func30 (by kernel_rfl) (by kernel_rfl) (by kernel_rfl) (by kernel_rfl) _ w).trans rfl
/-- What math.Trunc gives, but for a NaN. -/
def truncN (b : Nat) : Nat := FloatKind.f64.encode ((FloatKind.f64.decode b).integral .zero)
theorem integral_eq (b : Nat) : Extern.MathFloor.toIntegral "math.archTrunc" .zero #[.float .f64 b] =
    (match FloatKind.f64.decode b with
      | .nan s t =>
        if FloatKind.f64.format.quiet t = t then pure (.float .f64 b) else do
        let kept ← choose (.extern "math.Floor,Ceil,Trunc,RoundToEven.signallingNaN kept" 2)
        pure (.float .f64 (if kept == 1 then b else FloatKind.f64.encode (.nan s (FloatKind.f64.format.quiet t))))
      | d => pure (.float .f64 (FloatKind.f64.encode (d.integral .zero)))) := rfl
theorem run_trunc (b : Nat) (w : World) : ∃ y n, (callFunc 28 #[.float .f64 b]).run Try.prog w = .ok (.value (.float .f64 y)) (w.drewN n) ∧ ((FloatKind.f64.decode b).isNaN = false → y = truncN b) := by
  have h1 := run_callFunc_extern (e := Extern.MathFloor.toIntegral "math.archTrunc" .zero) Try.func28 (by kernel_rfl) (by kernel_rfl) (by kernel_rfl) (by kernel_rfl) #[.float .f64 b] w
  rw [h1, integral_eq]
  clear h1
  unfold truncN
  cases hd : FloatKind.f64.decode b with
  | number s m p => exact ⟨_, 0, rfl, fun _ => rfl⟩
  | infinity s => exact ⟨_, 0, rfl, fun _ => rfl⟩
  | nan s t =>
    simp only []
    by_cases hq : FloatKind.f64.format.quiet t = t
    · rw [if_pos hq]
      exact ⟨_, 0, rfl, fun h => by cases h⟩
    · rw [if_neg hq]
      exact ⟨_, 1, by simp [Result.andThen, Question.forced]; exact ⟨rfl, rfl⟩, fun h => by cases h⟩

/-- A signalling NaN: of it alone math.Trunc's answer is drawn. -/
def sNaN (b : Nat) : Prop := ∃ s t, FloatKind.f64.decode b = .nan s t ∧ ¬ FloatKind.f64.format.quiet t = t
def truncD (b : Nat) : Nat := match FloatKind.f64.decode b with
  | .nan _ _ => b
  | d => FloatKind.f64.encode (d.integral .zero)
theorem run_truncD (b : Nat) (hb : ¬ sNaN b) (w : World) : (callFunc 28 #[.float .f64 b]).run Try.prog w = .ok (.value (.float .f64 (truncD b))) w := by
  have h1 := run_callFunc_extern (e := Extern.MathFloor.toIntegral "math.archTrunc" .zero) Try.func28 (by kernel_rfl) (by kernel_rfl) (by kernel_rfl) (by kernel_rfl) #[.float .f64 b] w
  rw [h1, integral_eq]
  clear h1
  unfold truncD
  cases hd : FloatKind.f64.decode b with
  | number s m p => rfl
  | infinity s => rfl
  | nan s t =>
    simp only []
    by_cases hq : FloatKind.f64.format.quiet t = t
    · rw [if_pos hq]; rfl
    · exact absurd ⟨s, t, hd, hq⟩ hb
theorem nan_eq (b y : Nat) (hb : sNaN b) : FloatKind.f64.format.order b y ≠ some .eq := by
  obtain ⟨s, t, h, _⟩ := hb
  have h : FloatKind.f64.format.read b = .nan s t := h
  unfold Ieee.Format.order
  rw [h]
  simp [Ieee.Datum.order]
/-- A signalling NaN, as a word of its own: it is equal to nothing. -/
def nanOf (b : { b // sNaN b }) : Nat := b.1
theorem nan_cmp (b : { b // sNaN b }) (y : Nat) : (FloatKind.f64.format.order (nanOf b) y == some Ordering.eq) = false := by
  have := nan_eq b.1 y b.2
  simpa [nanOf] using this
theorem nan_cmp2 (b : { b // sNaN b }) (y : Nat) : (FloatKind.f64.format.order (nanOf b) y != some Ordering.eq) = true := by
  have := nan_cmp b y
  simp only [bne, this]; rfl
def absB (b : Nat) : Nat := (bits BinOp.andNot IntKind.u64 (b : Int) 9223372036854775808).toNat
def signB (b : Nat) : Bool := decide (wrap64 (b : Int) < 0)
def nanB (b : Nat) : Bool := FloatKind.f64.format.order b b != some Ordering.eq
def infB (b : Nat) : Bool := FloatKind.f64.format.order (absB b) 9218868437227405311 == some Ordering.gt

theorem abs_any (b : Nat) (w : World) : Calls Try.prog 17 #[.float .f64 b] w fun e w' => e = .returned (.float .f64 (absB b)) ∧ w = w' := by
  have hd1 := run_bits b
  have hd2 := run_from
  go_enter Try.func17, Try.ntmps17
  go_wp2_with fail
  go_ret
  exact ⟨rfl, rfl⟩
theorem trunc_any (b : Nat) (w : World) : Calls Try.prog 16 #[.float .f64 b] w fun e w' => ∃ y n, e = .returned (.float .f64 y) ∧ w' = w.drewN n ∧ ((FloatKind.f64.decode b).isNaN = false → y = truncN b) := by
  obtain ⟨y, n, hy, hyn⟩ := run_trunc b w
  go_enter Try.func16, Try.ntmps16
  go_wp2_with fail
  go_ret
  exact ⟨y, n, rfl, rfl, hyn⟩
theorem truncD_any (b : Nat) (hb : ¬ sNaN b) (w : World) : Calls Try.prog 16 #[.float .f64 b] w fun e w' => e = .returned (.float .f64 (truncD b)) ∧ w = w' := by
  have hy := run_truncD b hb
  go_enter Try.func16, Try.ntmps16
  go_wp2_with fail
  go_ret
  exact ⟨rfl, rfl⟩
theorem signbit_any (b : Nat) (w : World) : Calls Try.prog 18 #[.float .f64 b] w fun e w' => e = .returned (.bool (signB b)) ∧ w = w' := by
  have hd1 := run_bits b
  go_enter Try.func18, Try.ntmps18
  go_wp2_with fail
  go_ret
  exact ⟨rfl, rfl⟩
theorem isNaN_any (b : Nat) (w : World) : Calls Try.prog 19 #[.float .f64 b] w fun e w' => e = .returned (.bool (nanB b)) ∧ w = w' := by
  go_enter Try.func19, Try.ntmps19
  go_wp2_with fail
  go_ret
  exact ⟨rfl, rfl⟩
theorem isInf_any (b : Nat) (w : World) : Calls Try.prog 20 #[.float .f64 b, .int .i64 0] w fun e w' => e = .returned (.bool (infB b)) ∧ w = w' := by
  go_enter Try.func20, Try.ntmps20
  go_wp2_with fail
  refine (abs_any b _).mono ?_
  rintro e w' ⟨rfl, rfl⟩
  go_wp2_with fail
  go_ret
  exact ⟨rfl, rfl⟩
end Go.Proofs.Ytdibcinpjkahpaa.Flo
