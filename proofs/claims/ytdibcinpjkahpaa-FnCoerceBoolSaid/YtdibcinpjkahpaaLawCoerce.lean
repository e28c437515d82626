/- What this claim proves: laws.FnCoerceBool answers true for every value: where the value is right and is a boolean, a number or a text, impl.CoerceBool returns it as a boolean: itself, whether the number is not 0, whether the text is neither empty nor false. No condition. -/
import Derived.Test.YtdibcinpjkahpaaRows
import Derived.Test.YtdibcinpjkahpaaLaw
import Derived.WalkKit
import Derived.ProofKit
import Derived.OpenShut
import Derived.ShutString
import Derived.ChangeOld
import Derived.Below
import Derived.SizedLaws
import Derived.Deep.Slices
namespace Go.Proofs.Ytdibcinpjkahpaa.Coerce
open Go.Proofs.YtdibcinpjkahpaaW.PrintWords Go.Proofs.YtdibcinpjkahpaaW.PrintLast Go.ChangeShapes Go.WideShapes Go.ChangeAt Go.RowKit Go.Deep Go.Proofs.Ytdibcinpjkahpaa.Val Go.Proofs.Ytdibcinpjkahpaa.Law Go.Proofs.Ytdibcinpjkahpaa.Fin
set_option linter.unusedVariables false
set_option linter.unusedSimpArgs false

theorem own : ownKnob Try.prog.godebug = none := by kernel_rfl
theorem laidOut : laidOutB Try.prog = true := by kernel_rfl

theorem fits_big (A : Option Addr) (n c : Nat) (w : World) (hn : 2147483647 < n) : Calls Try.prog 4 #[.slice A n c] w fun e w' => e = .returned (.bool false) ∧ Below w.heap.size w w' := by
  have hni : (2147483647 : Int) < (n : Int) := by omega
  go_enter Try.func4, Try.ntmps4
  go_wp2_with fail
  go_ret
  exact ⟨rfl, Below.refl _ _⟩
theorem law_big (A : Option Addr) (n c : Nat) (w : World) (hn : 2147483647 < n) : Calls Try.prog 3 #[.slice A n c] w fun e w' => e = .returned (.bool true) ∧ Below w.heap.size w w' := by
  have HF := Aside0.mk (fits_big A n c w hn)
  go_enter Try.func3, Try.ntmps3
  go_wp2_with fail
  refine HF.out.mono ?_
  rintro e w1 ⟨rfl, hb1⟩
  go_wp2_with fail
  go_ret
  exact ⟨rfl, hb1⟩
theorem fits_zero (A : Option Addr) (c : Nat) (w : World) : Calls Try.prog 4 #[.slice A 0 c] w fun e w' => e = .returned (.bool true) ∧ Below w.heap.size w w' := by
  go_enter Try.func4, Try.ntmps4
  go_wp2_with fail
  go_loopw [10] (fun v10 wr => v10 = .int .i64 0 ∧ wr = w) (fun _ _ => 0)
  case atStart => exact ⟨rfl, rfl⟩
  case round =>
    obtain ⟨rfl, rfl⟩ := hrel
    go_wp2_with fail
    go_ret
    exact ⟨rfl, Below.refl _ _⟩
theorem law_zero (A : Option Addr) (c : Nat) (w : World) : Calls Try.prog 3 #[.slice A 0 c] w fun e w' => e = .returned (.bool true) ∧ Below w.heap.size w w' := by
  go_enter Try.func3, Try.ntmps3
  go_wp2_with fail
  refine (fits_zero A c _).mono ?_
  rintro e w1 ⟨rfl, hb1⟩
  go_wp2_with fail
  refine (top_empty A c _).mono ?_
  rintro e w2 ⟨rfl, hb2⟩
  go_wp2_with fail
  go_ret
  exact ⟨rfl, hb1.trans (hb2.mono hb1.size)⟩

instance : Inhabited V := ⟨⟨0, 0, ⟨#[]⟩, 0⟩⟩
section
variable {H : Type} {enc : TypeId × Value → H} {w : World} {base : Nat} {spare : Nat → Bool} {held : Bool}
theorem trod_float {P : Program} {k : FloatKind} {t : TypeId} {fuel : Nat} {cs : List Value} {x : DataW H × List MemPlace} (ht : P.underlying t = some (.float k)) (h : DataW.trod enc P w base spare held fuel t cs = some x) : ∃ b, cs = [.float k b] := by
  cases fuel with
  | zero => simp [DataW.trod] at h
  | succ n =>
    unfold DataW.trod at h
    rw [ht] at h
    split at h <;> simp_all

set_option maxRecDepth 100000 in
theorem node_of_trod {a : Addr} {i n : Nat} {cs : List Value} {x : DataW H × List MemPlace} (h1 : w.cells? base (a.add (i * 4)) 4 = some cs) (h2 : DataW.trod enc Try.prog w base spare held n 27 cs = some x) :
    ∃ v : V, w.cell? (a.add (i * 4)) = some (.int .i64 v.kind) ∧ w.cell? (a.add (i * 4 + 1)) = some (.float .f64 v.num) ∧ w.cell? (a.add (i * 4 + 2)) = some (.string v.text) ∧ w.cell? (a.add (i * 4 + 3)) = some (.int .i64 v.size) := by
  obtain ⟨_, hlen, hcell⟩ := World.cells?_some h1
  obtain ⟨xs, k, hk, hxy, _, hxl, hf⟩ := DataW.trod_struct Try.underlying27 h2
  match cs, hlen with
  | [c0, c1, c2, c3], _ =>
    have e0 := hcell 0 (by omega)
    have e1 := hcell 1 (by omega)
    have e2 := hcell 2 (by omega)
    have e3 := hcell 3 (by omega)
    rw [Go.Deep.add_add] at e0 e1 e2 e3
    match xs, hxl with
    | [y0, y1, y2, y3], _ =>
      have g0 := hf 0 _ rfl
      have g1 := hf 1 _ rfl
      have g2 := hf 2 _ rfl
      have g3 := hf 3 _ rfl
      have k3 : Try.prog.cellsOf 3 = 1 := by kernel_rfl
      have k25 : Try.prog.cellsOf 25 = 1 := by kernel_rfl
      have k9 : Try.prog.cellsOf 9 = 1 := by kernel_rfl
      simp [k3, k25, k9] at g0 g1 g2 g3
      obtain ⟨n0, q0, _⟩ := DataW.trod_int Try.underlying3 g0
      obtain ⟨n1, q1⟩ := trod_float Try.underlying25 g1
      obtain ⟨n2, q2, _⟩ := DataW.trod_string Try.underlying9 g2
      obtain ⟨n3, q3, _⟩ := DataW.trod_int Try.underlying3 g3
      simp only [List.cons.injEq, and_true] at q0 q1 q2 q3
      subst q0 q1 q2 q3
      exact ⟨⟨n0, n1, n2, n3⟩, e0, e1, e2, e3⟩
end

set_option maxRecDepth 100000 in
theorem lifted (os : Os) (started : os.Started) (H : Type) (enc : TypeId × Value → H) :
    ReturnsInHanded {} Try.checked os 3 .any (Rows.fnCoerceBoolSpec.pre6 enc Try.prog Try.f3 Rows.fnCoerceBoolRow.domain false) (Rows.fnCoerceBoolSpec.post enc Try.prog Try.f3 false true false false) := by
  refine returnsInHanded_of_change_sized (C := Try.checked) own started (by kernel_rfl) Try.func3
    (ChangeSpec.witness6 (enc := enc) (C := Try.checked) false ⟨#[], #[.slice none 0 0], []⟩ 8 (by kernel_rfl) (by kernel_rfl) (by kernel_rfl) (by kernel_rfl)) ?_
  intro W base args ds gs before hval0 hW hcnd hsz0 _
  have hval : ∀ (j : Nat) t v, Try.f3.params[j]? = some t → args[j]? = some v → Value.okWide Try.prog W .any base t v := hval0
  have hW' := hW
  obtain ⟨p, q, hA0, hV, rfl, hfz, hnd⟩ := hW
  have hA : DataW.TrodAll enc Try.prog W 0 (fun _ => true) true Try.f3.params.toList args.toList ds p := hA0
  rw [Try.params3] at hA hval
  obtain ⟨v0, vs0, d0, ds0, p0, q0, hargs, rfl, rfl, h0, r0⟩ := trodAll_cons hA
  obtain ⟨rfl, rfl, rfl⟩ := trodAll_nil r0
  obtain rfl : args = #[v0] := by cases args; simp_all
  obtain ⟨rfl, rfl⟩ := trodVars_none hV
  obtain ⟨a0, len0, cap0, rfl⟩ := okWide_slice Try.underlying22 (hval 0 22 v0 rfl rfl)
  have k0 := h0
  have lt0 : ∀ x ∈ p0, x.block < W.heap.size := by obtain ⟨m, hm⟩ := k0; exact DataW.trod_lt m _ _ _ hm
  have hlaw : Calls Try.prog 3 #[.slice a0 len0 cap0] W fun e w' => e = .returned (.bool true) ∧ Below W.heap.size W w' := by
    by_cases hz : len0 = 0
    · subst hz; exact law_zero a0 cap0 W
    · by_cases hbig : 2147483647 < len0
      · exact law_big a0 len0 cap0 W hbig
      · obtain ⟨fuel, hf⟩ := h0
        rcases open_slice Try.underlying22 hf with ⟨hcs, _⟩ | ⟨a, len, cap, m, n, D, Pl, hcs, _, hl, hm, hmm, _, hall⟩
        · simp [Value.cells] at hcs
          omega
        · simp [Value.cells] at hcs
          obtain ⟨rfl, rfl, rfl⟩ := hcs
          have c4 : Try.prog.cellsOf 27 = 4 := by kernel_rfl
          rw [c4] at hall
          have hlm : len0 ≤ m := by rw [hmm]; split <;> omega
          have hv : ∀ i, i < len0 → ∃ v : V, W.cell? (a.add (i * 4)) = some (.int .i64 v.kind) ∧ W.cell? (a.add (i * 4 + 1)) = some (.float .f64 v.num) ∧ W.cell? (a.add (i * 4 + 2)) = some (.string v.text) ∧ W.cell? (a.add (i * 4 + 3)) = some (.int .i64 v.size) := fun i hi => by
            obtain ⟨cs', g1, g2⟩ := hall i (by omega)
            exact node_of_trod g1 g2
          obtain ⟨f, hf2⟩ := choose_lt hv
          obtain ⟨b, o, s⟩ := a
          obtain rfl : s = none := by
            have h := (hf2 0 (by omega)).1
            cases s with
            | none => rfl
            | some x =>
              exfalso
              simp [World.cell?, Addr.add] at h
              split at h <;> simp_all
          have hadd : ∀ k, (⟨b, o, none⟩ : Addr).add k = ⟨b, o + k, none⟩ := fun k => Addr.add_lit _ _ _
          have hlen : ((List.range len0).map f).length = len0 := by simp
          have hVR : VRow W b o ((List.range len0).map f) := fun j v hj => by
            have hjl : j < len0 := by
              have h := (List.getElem?_eq_some_iff.1 hj).1
              simpa using h
            have hfj : f j = v := by
              rw [List.getElem?_map, List.getElem?_range hjl] at hj
              simpa using hj
            obtain ⟨e0, e1, e2, e3⟩ := hf2 j hjl
            rw [hadd] at e0 e1 e2 e3
            rw [← hfj]
            exact ⟨e0, e1, e2, e3⟩
          have h := law_some b o cap0 ((List.range len0).map f) W hVR (by rw [hlen]; exact hl) (by rw [hlen]; omega)
          rw [hlen] at h
          exact h
  refine hlaw.mono fun e W' ⟨he, bel⟩ => ?_
  subst he
  exact ⟨_, rfl, _, _, _, [], _, [], hW', trodAll_mk1 (shut_bool Try.underlying4 _), (trodAll_cons_mk (Below.trod laidOut (by kernel_rfl) (of_decide_eq_true (by kernel_rfl)) k0 bel lt0) trodAll_mk0), rfl, bel.frame _, fun h => by cases h⟩

theorem over : Rows.fnCoerceBoolRow.holds Try.pinned (OpenSpec.ofChange Rows.fnCoerceBoolSpec) :=
  OpenClaim.holds_of_wide 3 Try.f3 rfl rfl rfl rfl rfl rfl rfl ⟨rfl, rfl, rfl, rfl, rfl⟩ rfl rfl rfl rfl rfl (by kernel_rfl) Try.func3 (by kernel_rfl)
    (of_decide_eq_true (by kernel_rfl)) (by unfold Func.isWrapper; first | (rw [if_pos (by decide +kernel)]; kernel_rfl) | (rw [if_neg (by decide +kernel)]; exact ⟨rfl, rfl⟩))
    (fun os started H enc _ => lifted os started H enc)
theorem proved : Rows.FnCoerceBoolSaid := over
#print axioms proved
end Go.Proofs.Ytdibcinpjkahpaa.Coerce
