/- What this claim proves: laws.FnCoerceIntText answers true for every whole number of 32 bits: its decimal text, coerced to an Int, is the number. No condition; the package-level variables that it reads are tied to the program's text by the card. -/
import Derived.Test.YtaekkifjkgpimaaGreatDoorTie
import Derived.Test.YtaekkifjkgpimaaGreatDoorCards
import Derived.Test.YtaekkifjkgpimaaGreatDoorLawInt
import Derived.ProofKit
import Derived.OpenShut
import Derived.ShutString
import Derived.LaidMore
import Derived.Lay
import Derived.SevenTiedAt
import Derived.Stop.Joined
import Derived.Lib.LaidU8T
import Derived.SizedLaws
import Derived.Below
namespace Go.Proofs.YtaekkifjkgpimaaGreatDoor.IntText
open Go.ChangeShapes Go.WideShapes Go.ChangeAt Go.RowKit
open Go.Proofs.YtaekkifjkgpimaaGreatDoor.Atof (Vars)
set_option linter.unusedVariables false

theorem own : ownKnob Tryz.prog.godebug = none := by kernel_rfl
theorem pow_eq : (Rows.laid_internal_strconv_uint64pow10 : DataW Unit) = Lib.tabData .u64 Lib.pow10Tab := by kernel_rfl

theorem opt_of {W : World} (h : Lib.VarReads Tryz.prog W "internal/strconv.optimize" (.lit (.bool true))) : W.cell? ⟨6, 0, none⟩ = some (.bool true) := by
  obtain ⟨g, t, cs, fuel, p, hg, ht, hvar, hd⟩ := h
  obtain rfl : 6 = g := Option.some.inj ((show Tryz.prog.globalNamed "internal/strconv.optimize" = some 6 by kernel_rfl).symm.trans hg)
  obtain rfl : 4 = t := Option.some.inj ((show (Tryz.prog.globals[6]?).map (·.type) = some 4 by kernel_rfl).symm.trans ht)
  obtain ⟨b, h1, h2⟩ := DataW.trod_bool Tryz.underlying4 hd
  have hb : b = true := by
    injection h2 with h3 _
    injection h3 with h4
    injection h4 with h5
    exact h5.symm
  subst hb
  rw [World.var?_cell hg hvar 0, ← Array.getElem?_toList, h1]
  rfl
theorem bits_of {W : World} (h : Lib.VarReads Tryz.prog W "internal/strconv.float64info" (.agg [.lit (.int .u64 52), .lit (.int .u64 11), .lit (.int .i64 (-1023))])) : W.cell? ⟨7, 0, none⟩ = some (.int .u64 52) := by
  obtain ⟨g, t, cs, fuel, p, hg, ht, hvar, hd⟩ := h
  obtain rfl : 7 = g := Option.some.inj ((show Tryz.prog.globalNamed "internal/strconv.float64info" = some 7 by kernel_rfl).symm.trans hg)
  obtain rfl : 119 = t := Option.some.inj ((show (Tryz.prog.globals[7]?).map (·.type) = some 119 by kernel_rfl).symm.trans ht)
  obtain ⟨xs, n, rfl, hx, hlen, hxl, hf⟩ := DataW.trod_struct Tryz.underlying119 hd
  match hcs : cs.toList, xs, hxl with
  | [], [y0, y1, y2], _ =>
    rw [hcs] at hlen
    have hk : Tryz.prog.cellsOf 119 = 3 := by kernel_rfl
    rw [hk] at hlen
    cases hlen
  | c0 :: r, [y0, y1, y2], _ =>
    have g0 := hf 0 _ rfl
    have k0 : Tryz.prog.cellsOf 58 = 1 := by kernel_rfl
    rw [hcs] at g0
    simp [k0] at g0
    obtain ⟨m, q0, q1, _⟩ := DataW.trod_int Tryz.underlying58 g0
    rw [q1] at hx
    have e1 := congrArg Prod.fst hx
    simp only [List.map_cons, DataW.agg.injEq, List.cons.injEq, DataW.lit.injEq, Lit.int.injEq, true_and] at e1
    have e5 := e1.1
    subst e5
    have q2 := (List.cons.inj q0).1
    rw [World.var?_cell hg hvar 0, ← Array.getElem?_toList, hcs, q2]
    rfl
set_option maxRecDepth 100000 in
theorem pow_of {W : World} (h : Lib.VarReads Tryz.prog W "internal/strconv.uint64pow10" (Lib.tabData .u64 Lib.pow10Tab)) : Lib.TabIs Tryz.prog W "internal/strconv.uint64pow10" .u64 Lib.pow10Tab := by
  obtain ⟨g, t, cs, fuel, p, hg, ht, hvar, hd⟩ := h
  obtain rfl : 0 = g := Option.some.inj ((show Tryz.prog.globalNamed "internal/strconv.uint64pow10" = some 0 by kernel_rfl).symm.trans hg)
  obtain rfl : 88 = t := Option.some.inj ((show (Tryz.prog.globals[0]?).map (·.type) = some 88 by kernel_rfl).symm.trans ht)
  have hc := Lib.cells_of_tab (n := 20) (e := 65) Tryz.underlying88 Tryz.underlying65 (by kernel_rfl) (by kernel_rfl) hd
  unfold Lib.TabIs
  rw [hvar, ← hc]

theorem vars_of {W : World} (h : laidMetH Tryz.prog Rows.fnCoerceIntTextRow.laid W) : Vars W ∧ Lib.TabIs Tryz.prog W "internal/strconv.uint64pow10" .u64 Lib.pow10Tab := by
  rw [MakeChecks.laidMetH_plain _ _ _ (by kernel_rfl)] at h
  have r3 := Lib.laidMet.reads h (.tail _ (.tail _ (.tail _ (.head _))))
  have r4 := Lib.laidMet.reads h (.tail _ (.tail _ (.tail _ (.tail _ (.head _)))))
  have r8 := Lib.laidMet.reads h (.tail _ (.tail _ (.tail _ (.tail _ (.tail _ (.tail _ (.tail _ (.tail _ (.head _)))))))))
  rw [pow_eq] at r8
  exact ⟨⟨opt_of r4, bits_of r3⟩, pow_of r8⟩

set_option maxRecDepth 100000 in
theorem lifted (os : Os) (started : os.Started) (H : Type) (enc : TypeId × Value → H) :
    ReturnsInHanded {} Tryz.checked os 3 .any (fun w args => (Rows.fnCoerceIntTextSpec.pre enc Tryz.prog Tryz.f3 Rows.fnCoerceIntTextRow.domain false w args ∧ laidMetH Tryz.prog Rows.fnCoerceIntTextRow.laid w) ∧ sizedMet enc Tryz.prog Tryz.f3 (OpenSpec.ofChange Rows.fnCoerceIntTextSpec) false w args)
      (Rows.fnCoerceIntTextSpec.post enc Tryz.prog Tryz.f3 false true false false) := by
  refine returnsInHanded_of_change_and (C := Tryz.checked) (X := fun w _ => laidMetH Tryz.prog Rows.fnCoerceIntTextRow.laid w) (fun _ _ _ hh h => h.of_heap hh) own started (by kernel_rfl) Tryz.func3
    (ChangeSpec.witness_shaped (enc := enc) (C := Tryz.checked) (os := os) (X := fun w _ => laidMetH Tryz.prog Rows.fnCoerceIntTextRow.laid w) false (World.laidAll Tryz.prog os Rows.fnCoerceIntTextRow.laid) #[.int .i32 0] 8 (World.laidAll_os _ _ _)
      (World.shaped_of_ZipB (by kernel_rfl) (by kernel_rfl)) (by kernel_rfl) (by kernel_rfl) (by kernel_rfl)
      (by rw [MakeChecks.laidMetH_plain _ _ _ (by kernel_rfl)]; exact laidMet_laidAll _ (by kernel_rfl) (by kernel_rfl))) ?_
  intro W base args ds gs before hval0 hW hc hsz0 hL _
  have hval : ∀ (j : Nat) t v, Tryz.f3.params[j]? = some t → args[j]? = some v → Value.okWide Tryz.prog W .any base t v := hval0
  have hW' := hW
  obtain ⟨p, q, hA0, hV, rfl, _, _⟩ := hW
  have hA : DataW.TrodAll enc Tryz.prog W 0 (fun _ => true) true Tryz.f3.params.toList args.toList ds p := hA0
  rw [Tryz.params3] at hA hval
  obtain ⟨v0, d0, rfl, rfl, h0⟩ := trodAll_one hA
  obtain ⟨rfl, rfl⟩ := trodVars_none hV
  obtain ⟨n, rfl, rfl, rfl, y0⟩ := open_int Tryz.underlying21 (hval 0 21 v0 rfl rfl) h0
  have w0 : -2147483648 ≤ n ∧ n ≤ 2147483647 := by
    have h1 : (decide (IntKind.i32.min ≤ n) && decide (n ≤ IntKind.i32.max)) = true := y0
    rw [Bool.and_eq_true, decide_eq_true_eq, decide_eq_true_eq, show IntKind.i32.min = -2147483648 by decide, show IntKind.i32.max = 2147483647 by decide] at h1
    exact h1
  clear hA0 hval0 hsz0
  obtain ⟨hVr, hTb⟩ := vars_of hL
  refine (LawInt.law n w0.1 w0.2 W hVr hTb).mono fun e W' ⟨he, bel⟩ => ?_
  subst he
  exact ⟨_, rfl, _, _, _, [], _, [], hW', trodAll_mk1 (shut_bool Tryz.underlying4 _), trodAll_mk1 (shut_int Tryz.underlying21 y0), rfl, bel.frame _, fun h => by cases h⟩

theorem holds : Rows.FnCoerceIntTextSaid :=
  OpenClaim.holds_of_wide 3 Tryz.f3 rfl rfl rfl rfl rfl rfl rfl ⟨rfl, rfl, rfl, rfl, rfl⟩ rfl rfl rfl rfl rfl (by kernel_rfl) Tryz.func3 (by kernel_rfl)
    (of_decide_eq_true (by kernel_rfl)) (by unfold Func.isWrapper; first | (rw [if_pos (by decide +kernel)]; kernel_rfl) | (rw [if_neg (by decide +kernel)]; exact ⟨rfl, rfl⟩))
    (fun os started H enc _ => lifted os started H enc)

theorem card_holds : Rows.FnCoerceIntTextCardSaid :=
  Claim7.holds_tied_plain_at .later [] [.data, .data, .widerDeep, .widerDeep, .data, .data, .data, .data, .data, .sentinel, .sentinel, .pinned, .pinned] true (true, "bd41114ceaecd18fd7ad2bde23919bcf81777dd9867cc9e19c45e2cfc25c5098") true holds (fun _ h => by cases h) (by kernel_rfl) (fun _ h => by cases h) fnCoerceIntText_row_tie rfl ⟨rfl, rfl⟩ (by kernel_rfl) rfl
    (fun f fn hf hfn => by
      obtain rfl : f = 3 := Option.some.inj ((show Tryz.prog.funcNamed "given.example/pub-versicle/laws.FnCoerceIntText" = some 3 by kernel_rfl).symm.trans hf) |>.symm
      obtain rfl : fn = Tryz.f3 := (Option.some.inj (Tryz.func3.symm.trans hfn)).symm
      exact ⟨by kernel_rfl, fun j t ht => by
        rw [Tryz.params3] at ht
        have hm : t ∈ [21] := by simpa using Array.mem_of_getElem? ht
        have hall : ([21].all fun u => !Tryz.prog.wantsStandIn u) = true := by kernel_rfl
        exact (show Tryz.prog.wantsStandIn t = false by simpa using List.all_eq_true.1 hall t hm)⟩)
    (by kernel_rfl)
#print axioms card_holds
end Go.Proofs.YtaekkifjkgpimaaGreatDoor.IntText
