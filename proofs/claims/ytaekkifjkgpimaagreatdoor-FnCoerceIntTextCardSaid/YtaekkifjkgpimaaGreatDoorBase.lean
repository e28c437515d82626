import Derived.Test.YtaekkifjkgpimaaGreatDoorProg
import Derived.Below
import Derived.WalkKit
import Derived.WalkSpells
import Derived.StillTactics
import Derived.OneCell
import Derived.Laws.FloatBits
import Derived.Laws.FloatArith
import Derived.Laws.Externs
import Derived.Deep.QuietTactic
import Derived.BigQuiet
import Derived.Outline
import Derived.Deep.RegionWith
import Derived.BigRegion
import Derived.Test.YtaekkifjkgpimaaGreatDoorWWords
namespace Go.Proofs.YtaekkifjkgpimaaGreatDoor.Base
set_option linter.unusedVariables false
set_option linter.unusedSimpArgs false
open Go.RowKit Go.Proofs.YtaekkifjkgpimaaGreatDoorW.PrintWords

theorem run_store_float {P : Program} {w : World} {a : Addr} {m : Mode} (k : FloatKind) (b : Nat) : (store a (.float k b) m).run P w = stored P w a (.float k b) m := run_store P w a _ m rfl
theorem below_one {w w1 : World} {o : Obj} (hb : Below (w.alloc o).heap.size (w.alloc o) w1) : Below w.heap.size w w1 :=
  ((Below.refl w.heap.size w).alloc (Nat.le_refl _) o).trans (hb.mono (by simp))
theorem bt_nat (s : ByteArray) (p : Nat) : ∀ h : p < s.size, ((s[p]'h).toNat : Int) = bt s p := fun h => by simp [bt, h]
end Go.Proofs.YtaekkifjkgpimaaGreatDoor.Base
