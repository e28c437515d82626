import Derived.Test.YtdibcinpjkahpaaParts
import Derived.Test.YtdibcinpjkahpaaRightN
import Derived.Test.YtdibcinpjkahpaaSame
import Derived.Test.YtdibcinpjkahpaaNum
namespace Go.Proofs.Ytdibcinpjkahpaa.Fin
set_option linter.unusedVariables false
set_option linter.unusedSimpArgs false
open Go.RowKit Go.Proofs.YtdibcinpjkahpaaW.PrintWords Go.Proofs.YtdibcinpjkahpaaW.PrintLast Go.Proofs.Ytdibcinpjkahpaa.Flo Go.Proofs.Ytdibcinpjkahpaa.Val Go.Proofs.Ytdibcinpjkahpaa.Right Go.Proofs.Ytdibcinpjkahpaa.Impl Go.Proofs.Ytdibcinpjkahpaa.Same Go.Proofs.Ytdibcinpjkahpaa.Num
attribute [local go_sem] run_store_float

set_option maxRecDepth 100000 in
set_option maxHeartbeats 2000000 in
theorem fits_nil (c : Nat) (w : World) : Calls Try.prog 4 #[.slice none 0 c] w fun e w' => e = .returned (.bool true) ∧ Below w.heap.size w w' := by
  go_enter Try.func4, Try.ntmps4
  go_wp2_with fail
  go_loopw [10] (fun v10 wr => v10 = .int .i64 0 ∧ wr = w) (fun _ _ => 0)
  case atStart => exact ⟨rfl, rfl⟩
  case round =>
    obtain ⟨rfl, rfl⟩ := hrel
    go_wp2_with fail
    go_ret
    exact ⟨rfl, Below.refl _ _⟩
theorem top_empty (A : Option Addr) (c : Nat) (w : World) : Calls Try.prog 5 #[.slice A 0 c, .bool false] w fun e w' => e = .returned (.bool false) ∧ Below w.heap.size w w' := by
  go_enter Try.func5, Try.ntmps5
  go_wp2_with fail
  go_ret
  exact ⟨rfl, Below.refl _ _⟩
set_option maxRecDepth 100000 in
set_option maxHeartbeats 2000000 in
theorem top_any (bk o c : Nat) (vs : List V) (v : V) (w : World) (hV : VRow w bk o vs) (hv : vs[0]? = some v) (hc : vs.length ≤ c) :
    Calls Try.prog 5 #[.slice (some ⟨bk, o, none⟩) vs.length c, .bool false] w fun e w' => RightAns v vs.length w e w' := by
  have hn : 0 < vs.length := (List.getElem?_eq_some_iff.1 hv).1
  have hni : (0 : Int) < (vs.length : Int) := by omega
  by_cases hl : vs.length ≤ 300
  · have hli : (vs.length : Int) ≤ 300 := by omega
    have HR := Aside0.mk (right_20 bk o c vs v w hV hv (by omega) hc)
    clear hV
    go_enter Try.func5, Try.ntmps5
    go_wp2_with fail
    refine HR.out.mono ?_
    rintro e w1 ⟨b, rfl, hb, hr⟩
    go_wp2_with fail
    go_ret
    exact ⟨b, rfl, hb, hr⟩
  · have hli : ¬ (vs.length : Int) ≤ 300 := by omega
    go_enter Try.func5, Try.ntmps5
    go_wp2_with fail
    go_ret
    exact ⟨_, rfl, Below.refl _ _, fun h => by cases h⟩
set_option maxRecDepth 100000 in
set_option maxHeartbeats 2000000 in
theorem top_neg (bk o c : Nat) (vs : List V) (v : V) (w : World) (hV : VRow w bk o vs) (hv : vs[0]? = some v) (hk : v.kind < 1) :
    Calls Try.prog 5 #[.slice (some ⟨bk, o, none⟩) vs.length c, .bool false] w fun e w' => e = .returned (.bool false) ∧ Below w.heap.size w w' := by
  have hn : 0 < vs.length := (List.getElem?_eq_some_iff.1 hv).1
  have hni : (0 : Int) < (vs.length : Int) := by omega
  by_cases hl : vs.length ≤ 300
  · have hli : (vs.length : Int) ≤ 300 := by omega
    have HR : Aside0 (Calls Try.prog 11 #[.slice (some ⟨bk, o, none⟩) vs.length c, .bool false, .int .i64 20] w fun e w' => e = .returned (.bool false) ∧ Below w.heap.size w w') := ⟨by
      by_cases hs : v.size = vs.length
      · exact right_neg bk o _ c 20 v w hn (by omega) hk hs ⟨by omega, by omega⟩ (node_of hV hv)
      · exact size_no bk o _ c 20 v w hn (by omega) trivial hs (by omega) (node_of hV hv)⟩
    clear hV
    go_enter Try.func5, Try.ntmps5
    go_wp2_with fail
    refine HR.out.mono ?_
    rintro e w1 ⟨rfl, hb⟩
    go_wp2_with fail
    go_ret
    exact ⟨rfl, hb⟩
  · have hli : ¬ (vs.length : Int) ≤ 300 := by omega
    go_enter Try.func5, Try.ntmps5
    go_wp2_with fail
    go_ret
    exact ⟨rfl, Below.refl _ _⟩
end Go.Proofs.Ytdibcinpjkahpaa.Fin
