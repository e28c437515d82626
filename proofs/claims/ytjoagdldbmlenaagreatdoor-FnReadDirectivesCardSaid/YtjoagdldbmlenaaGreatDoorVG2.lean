import Derived.Test.YtjoagdldbmlenaaGreatDoorChecked
import Derived.Test.YtjoagdldbmlenaaGreatDoorTie
import Derived.Test.YtjoagdldbmlenaaGreatDoorCards
import Derived.ProofKit
import Derived.OpenShut
import Derived.ShutString
import Derived.LaidMore
import Derived.Lay
import Derived.SevenTiedAt
import Derived.Stop.Joined
import Derived.Lib.LaidU8T
import Derived.SizedLaws
import Derived.Below
set_option maxRecDepth 100000
set_option maxHeartbeats 8000000
set_option linter.unusedVariables false
set_option linter.unusedSimpArgs false
namespace Go.Proofs.YtjoagdldbmlenaaGreatDoor.LawC
open Go.ChangeShapes Go.WideShapes Go.ChangeAt Go.RowKit
open Go.ChangeMaps (open_string shut_string)
theorem own : ownKnob Tryz.prog.godebug = none := by kernel_rfl
theorem first_eq : Rows.laid_unicode_utf8_first = Lib.firstData := by kernel_rfl
theorem accept_eq : (Rows.laid_unicode_utf8_acceptRanges : DataW Unit) = Lib.acceptData := by kernel_rfl
def tabRen : Go.Shelf.Ren := ⟨fun n => n, fun | 5 => 5 | 119 => 235 | 138 => 237 | 139 => 238 | n => n, fun | 3 => 0 | 4 => 1 | n => n⟩
theorem types8 : U8Types Tryz.prog tabRen := ⟨Tryz.underlying5, Tryz.underlying235, Tryz.underlying237, Tryz.underlying238⟩
theorem extra8 : U8Extra Tryz.prog tabRen := ⟨by kernel_rfl, by kernel_rfl, by kernel_rfl, by kernel_rfl, by kernel_rfl, by kernel_rfl, by kernel_rfl⟩
theorem tabs {W : World} (h : laidMetH Tryz.prog Rows.fnReadDirectivesRow.laid W) : Lib.Utf8Tabs 0 1 W := by
 rw [MakeChecks.laidMetH_plain _ _ _ (by kernel_rfl)] at h
 have r4 := Lib.laidMet.reads h (.head _)
 have r3 := Lib.laidMet.reads h (.tail _ (.tail _ (.head _)))
 rw [accept_eq] at r4
 rw [first_eq] at r3
 exact utf8Tabs_of_readsT types8 extra8 r3 r4
theorem lifted (law : ∀ (a : ByteArray) (w : World), Lib.Utf8Tabs 0 1 w → a.size ≤ 140737488351232 → Calls Tryz.prog 3 #[.string a] w fun e w' => e = .returned (.bool true) ∧ Below w.heap.size w w') (os : Os) (started : os.Started) (H : Type) (enc : TypeId × Value → H) :
  ReturnsInHanded {} Tryz.checked os 3 .any (fun w args => (Rows.fnReadDirectivesSpec.pre enc Tryz.prog Tryz.f3 Rows.fnReadDirectivesRow.domain false w args ∧ laidMetH Tryz.prog Rows.fnReadDirectivesRow.laid w) ∧ sizedMet enc Tryz.prog Tryz.f3 (OpenSpec.ofChange Rows.fnReadDirectivesSpec) false w args)
   (Rows.fnReadDirectivesSpec.post enc Tryz.prog Tryz.f3 false true false false) := by
 refine returnsInHanded_of_change_and (C := Tryz.checked) (X := fun w _ => laidMetH Tryz.prog Rows.fnReadDirectivesRow.laid w) (fun _ _ _ hh h => h.of_heap hh) own started (by kernel_rfl) Tryz.func3
  (ChangeSpec.witness_shaped (enc := enc) (C := Tryz.checked) (os := os) (X := fun w _ => laidMetH Tryz.prog Rows.fnReadDirectivesRow.laid w) false (World.laidAll Tryz.prog os Rows.fnReadDirectivesRow.laid) #[.string ByteArray.empty] 8 (World.laidAll_os _ _ _)
   (World.shaped_of_ZipB (by kernel_rfl) (by kernel_rfl)) (by kernel_rfl) (by kernel_rfl) (by kernel_rfl)
   (by rw [MakeChecks.laidMetH_plain _ _ _ (by kernel_rfl)]; exact laidMet_laidAll _ (by kernel_rfl) (by kernel_rfl))) ?_
 intro W base args ds gs before hval0 hW hc hsz0 hL _
 have hval : ∀ (j : Nat) t v, Tryz.f3.params[j]? = some t → args[j]? = some v → Value.okWide Tryz.prog W .any base t v := hval0
 have hsz : (DataW.weightsEach Tryz.prog (Tryz.f3.params.toList ++ Rows.fnReadDirectivesSpec.plain.varTypes Tryz.prog) (ds ++ gs)).all (· ≤ reachBytes) = true := hsz0
 have hW' := hW
 obtain ⟨p, q, hA0, hV, rfl, _, _⟩ := hW
 have hA : DataW.TrodAll enc Tryz.prog W 0 (fun _ => true) true Tryz.f3.params.toList args.toList ds p := hA0
 rw [Tryz.params3] at hA hval hsz
 obtain ⟨v0, d0, rfl, rfl, h0⟩ := trodAll_one hA
 obtain ⟨rfl, rfl⟩ := trodVars_none hV
 obtain ⟨a0, rfl, rfl, rfl, y0⟩ := open_string Tryz.underlying9 (hval 0 9 v0 rfl rfl) h0
 have w0 : a0.size ≤ 140737488351232 := by
  have z := sized_string hsz (j := 0) (t := 9) rfl rfl
  rw [Array.length_toList] at z
  exact z
 clear hA0 hval0 hsz0 hsz
 refine (law a0 W (tabs hL) w0).mono fun e W' ⟨he, bel⟩ => ?_
 subst he
 exact ⟨_, rfl, _, _, _, [], _, [], hW', trodAll_mk1 (shut_bool Tryz.underlying4 _), trodAll_mk1 (shut_string Tryz.underlying9 y0), rfl, bel.frame _, fun h => by cases h⟩
theorem holds_of (law : ∀ (a : ByteArray) (w : World), Lib.Utf8Tabs 0 1 w → a.size ≤ 140737488351232 → Calls Tryz.prog 3 #[.string a] w fun e w' => e = .returned (.bool true) ∧ Below w.heap.size w w') : Rows.FnReadDirectivesSaid :=
 OpenClaim.holds_of_wide 3 Tryz.f3 rfl rfl rfl rfl rfl rfl rfl ⟨rfl, rfl, rfl, rfl, rfl⟩ rfl rfl rfl rfl rfl (by kernel_rfl) Tryz.func3 (by kernel_rfl)
  (of_decide_eq_true (by kernel_rfl)) (by unfold Func.isWrapper; first | (rw [if_pos (by decide +kernel)]; kernel_rfl) | (rw [if_neg (by decide +kernel)]; exact ⟨rfl, rfl⟩))
  (fun os started H enc _ => lifted law os started H enc)
theorem card_of (law : ∀ (a : ByteArray) (w : World), Lib.Utf8Tabs 0 1 w → a.size ≤ 140737488351232 → Calls Tryz.prog 3 #[.string a] w fun e w' => e = .returned (.bool true) ∧ Below w.heap.size w w') : Rows.FnReadDirectivesCardSaid :=
 Claim7.holds_tied_plain_at .later [] [.data, .sentinel, .pinned] true (true, "b28cc931b8c10f9d9260d4438c20eaa88fa3fd1c231de0ec1b73991b795a2321") true (holds_of law) (fun _ h => by cases h) (by kernel_rfl) (fun _ h => by cases h) fnReadDirectives_row_tie rfl ⟨rfl, rfl⟩ (by kernel_rfl) rfl
  (fun f fn hf hfn => by
   obtain rfl : f = 3 := Option.some.inj ((show Tryz.prog.funcNamed "given.example/pub-versicle/laws.FnReadDirectives" = some 3 by kernel_rfl).symm.trans hf) |>.symm
   obtain rfl : fn = Tryz.f3 := (Option.some.inj (Tryz.func3.symm.trans hfn)).symm
   exact ⟨by kernel_rfl, fun j t ht => by
    rw [Tryz.params3] at ht
    have hm : t ∈ [9] := by simpa using Array.mem_of_getElem? ht
    have hall : ([9].all fun u => !Tryz.prog.wantsStandIn u) = true := by kernel_rfl
    exact (show Tryz.prog.wantsStandIn t = false by simpa using List.all_eq_true.1 hall t hm)⟩)
  (by kernel_rfl)
end Go.Proofs.YtjoagdldbmlenaaGreatDoor.LawC
