import Derived.Test.YtdibcinpjkahpaaRight2
import Derived.Test.YtdibcinpjkahpaaRight3
import Derived.Test.YtdibcinpjkahpaaRight4
import Derived.Deep.AppendLies
import Derived.OwnWalk
namespace Go.Proofs.Ytdibcinpjkahpaa.Right
set_option linter.unusedVariables false
set_option linter.unusedSimpArgs false
open Go.RowKit Go.Proofs.YtdibcinpjkahpaaW.PrintWords Go.Proofs.YtdibcinpjkahpaaW.PrintLast Go.Proofs.Ytdibcinpjkahpaa.Flo Go.Proofs.Ytdibcinpjkahpaa.Val Go.Proofs.Ytdibcinpjkahpaa.U8
attribute [local go_sem] run_store_float

theorem node_of {w : World} {bk o : Nat} {vs : List V} {v : V} (h : VRow w bk o vs) (hv : vs[0]? = some v) : Node w bk o v := by
  obtain ⟨h0, h1, h2, h3⟩ := h 0 v hv
  simp only [Nat.zero_mul, Nat.add_zero] at h0 h1 h2 h3
  exact ⟨h0, h1, h2, h3⟩

/-- dataRight at a depth, whatever the row: it answers; what it says of the first node. -/
def RightAt (deep : Int) : Prop := ∀ (bk o c : Nat) (vs : List V) (v : V) (w : World), VRow w bk o vs → vs[0]? = some v → vs.length ≤ 1000000 → vs.length ≤ c →
  Calls Try.prog 11 #[.slice (some ⟨bk, o, none⟩) vs.length c, .bool false, .int .i64 deep] w fun e w' => RightAns v vs.length w e w'
def PartsAt (deep : Int) : Prop := ∀ (bk o c : Nat) (vs : List V) (w : World), VRow w bk o vs → 0 < vs.length → vs.length ≤ 1000000 → vs.length ≤ c →
  Calls Try.prog 22 #[.slice (some ⟨bk, o, none⟩) vs.length c, .bool false, .int .i64 deep] w fun e w' => SomeBool w e w'

theorem right_below {deep : Int} (h : deep < 0) : RightAt deep := by
  intro bk o c vs v w hV hv hl hc
  have hn : 0 < vs.length := (List.getElem?_eq_some_iff.1 hv).1
  by_cases hs : v.size = vs.length
  · exact right_deep bk o _ c deep v w hn hl trivial hs h (node_of hV hv)
  · exact right_size bk o _ c deep v w hn hl trivial hs (by omega) (node_of hV hv)
theorem right_step {deep : Int} (hd : 0 ≤ deep ∧ deep ≤ 20) (hP : PartsAt deep) : RightAt deep := by
  intro bk o c vs v w hV hv hl hc
  have hn : 0 < vs.length := (List.getElem?_eq_some_iff.1 hv).1
  have hN := node_of hV hv
  by_cases hs : v.size = vs.length
  · have hk : v.kind = 4 ∨ v.kind = 5 ∨ v.kind = 6 ∨ (v.kind = 1 ∨ v.kind = 2 ∨ v.kind = 3) ∨ v.kind = 10 ∨ v.kind = 9 ∨ (v.kind = 7 ∨ v.kind = 8) ∨ (v.kind < 1 ∨ 10 < v.kind) := by omega
    rcases hk with h | h | h | h | h | h | h | h
    · exact right_int bk o _ c deep v w hn hl h hs hd hN
    · exact right_flo bk o _ c deep v w hn hl h hs hd hN
    · exact right_str bk o _ c deep v w hn hl h hs hd hN
    · exact right_one bk o _ c deep v w hn hl h hs hd hN
    · exact right_err bk o _ c deep v w hn hl h hs hd hN
    · exact right_mem bk o _ c deep v w hn hl h hs hd hN
    · exact right_many bk o _ c deep v w hn hl h hs hd hN (fun W hb => hP bk o c vs W (hV.below hb) hn hl hc)
    · exact right_no bk o _ c deep v w hn hl h hs hd hN
  · exact right_size bk o _ c deep v w hn hl trivial hs hd.2 hN

theorem infoStr : (Try.prog.info? 9).map (fun i => (i.zero, i.size, i.bytes)) = some (some (.string ⟨#[]⟩), 1, 16) := by kernel_rfl
theorem C_of {A : Option Addr} {c base : Nat} {l : List ByteArray} {w : World} (h : Kd.R Kd.string 9 w base (fun _ => True) (.slice A l.length c) l) : Kd.C Kd.string w A l.length l := by
  obtain ⟨A', c', e, _, hC⟩ := Kd.R_reads h
  injection e with e1 e2 e3
  subst e1
  exact hC
theorem part_calls {deep : Int} (hR : RightAt deep) {W : World} {bk o c : Nat} {vs : List V} (hV : VRow W bk o vs) (k m : Nat) (hm : 1 ≤ m) (hk : k + m ≤ vs.length) (hl : vs.length ≤ 1000000) (hc : vs.length ≤ c) :
    Calls Try.prog 11 #[.slice (some ⟨bk, o + k * 4, none⟩) m (c - k), .bool false, .int .i64 deep] W fun e w' => SomeBool W e w' := by
  have hlen : ((vs.drop k).take m).length = m := by rw [List.length_take, List.length_drop]; omega
  have hx : ((vs.drop k).take m)[0]? = some vs[k] := by
    rw [List.getElem?_take, if_pos (by omega), List.getElem?_drop, Nat.add_zero, List.getElem?_eq_getElem (by omega)]
  have h := hR bk (o + k * 4) (c - k) ((vs.drop k).take m) _ W (hV.part k m) hx (by omega) (by omega)
  rw [hlen] at h
  refine h.mono ?_
  rintro e w' ⟨b, he, hb, _⟩
  exact ⟨b, he, hb⟩

set_option maxRecDepth 100000 in
set_option maxHeartbeats 4000000 in
theorem parts_step {deep : Int} (hd : 0 ≤ deep ∧ deep ≤ 20) (hR : RightAt (deep - 1)) : PartsAt deep := by
  intro bk o c vs w hV hn hl hc
  have HV := Aside0.mk hV
  have HR := Aside0.mk hR
  clear hV hR
  obtain ⟨v0, hv0⟩ : ∃ v0, vs[0]? = some v0 := ⟨_, List.getElem?_eq_getElem hn⟩
  go_enter Try.func22, Try.ntmps22
  go_wp2_with fail
  go_loopw [7, 8] (fun v7 v8 wr => ∃ (k : Nat) (l : List ByteArray), v8 = .int .i64 k ∧ 1 ≤ k ∧ k ≤ vs.length ∧ l.length ≤ k ∧ Aside0 (Kd.R Kd.string 9 wr w.heap.size (fun _ => True) v7 l) ∧ Aside0 (Below w.heap.size w wr)) (fun _ v8 _ => vs.length - (intOf v8).toNat)
  case atStart => exact ⟨1, [], rfl, by omega, by omega, by simp, ⟨Kd.R_nil _ _ _ _ _⟩, ⟨Below.refl _ _⟩⟩
  case round =>
    obtain ⟨k, l, rfl, hk1, hkl, hll, HL, HB⟩ := hrel
    by_cases hlt : k < vs.length
    · have hlti : (k : Int) < (vs.length : Int) := by omega
      obtain ⟨x, hx⟩ : ∃ x, vs[k]? = some x := ⟨_, List.getElem?_eq_getElem hlt⟩
      have HVr := HV.out.below HB.out
      obtain ⟨c0, c1, c2, c3⟩ := HVr k x hx
      obtain ⟨d0, d1, d2, d3⟩ := node_of HVr hv0
      have hbl : bk < wr.heap.size := World.block_lt_of_cell? wr _ d0
      obtain ⟨A, cn, rfl, hcn, hC⟩ := Kd.R_reads HL.out
      by_cases hs1 : x.size < 1
      · go_wp2_with fail
        go_ret
        exact ⟨_, rfl, below_alloc HB.out _⟩
      · by_cases hs2 : (vs.length : Int) - k < x.size
        · have hs1' : 1 ≤ x.size := by omega
          go_wp2_with fail
          go_ret
          exact ⟨_, rfl, below_alloc HB.out _⟩
        · obtain ⟨m, hm⟩ : ∃ m : Nat, x.size = m := ⟨x.size.toNat, by omega⟩
          have hm1 : 1 ≤ m := by omega
          have hmk : k + m ≤ vs.length := by omega
          have hm1i : (1 : Int) ≤ (m : Int) := by omega
          have hm2i : (m : Int) ≤ (vs.length : Int) - k := by omega
          have hck : ¬ c = k := by omega
          have hcm : (k : Int) + m ≤ c := by omega
          rw [hm] at c3
          have HP := Aside0.mk (fun W (hb : Below wr.heap.size wr W) => part_calls HR.out (HVr.below hb) k m hm1 hmk hl hc)
          by_cases h8 : v0.kind = 8
          · rw [h8] at d0
            by_cases hk9 : x.kind = 9
            · rw [hk9] at c0
              cases hq : (FloatKind.f64.format.order x.num 0 == some Ordering.eq) with
              | false =>
                have hq2 : (FloatKind.f64.format.order x.num 0 != some Ordering.eq) = true := by simp only [bne, hq]; rfl
                go_wp2_with fail
                go_ret
                exact ⟨_, rfl, below_alloc HB.out _⟩
              | true =>
                have hq2 : (FloatKind.f64.format.order x.num 0 != some Ordering.eq) = false := by simp only [bne, hq]; rfl
                by_cases hm2 : m < 2
                · have hm2i : (m : Int) < 2 := by omega
                  go_wp2_with fail
                  go_ret
                  exact ⟨_, rfl, below_alloc HB.out _⟩
                · have hm2j : (2 : Int) ≤ (m : Int) := by omega
                  by_cases ht : x.text.size ≤ 100
                  · have hti : (x.text.size : Int) ≤ 100 := by omega
                    obtain ⟨r, hU⟩ := utf8_calls x.text (by omega)
                    obtain ⟨r2, hA⟩ := among_calls l x.text (by omega)
                    have HU := Aside0.mk hU
                    have HA := Aside0.mk hA
                    have HL1 := Aside0.mk (Kd.R_alloc HL.out (.cells #[.int .i64 9, .float .f64 x.num, .string x.text, .int .i64 m] 27))
                    clear hU hA
                    cases r with
                    | false =>
                      go_wp2_with fail
                      refine (HU.out _).mono ?_
                      rintro e w2 ⟨rfl, ⟨nd, rfl⟩⟩
                      go_wp2_with fail
                      go_ret
                      exact ⟨_, rfl, pw_below_drewN (below_alloc HB.out _) _⟩
                    | true =>
                      go_wp2_with fail
                      refine (HU.out _).mono ?_
                      rintro e w2 ⟨rfl, ⟨nd, rfl⟩⟩
                      go_wp2_with fail
                      refine (HA.out A cn _ (C_of (Kd.R_drewN HL1.out nd)) hcn).mono ?_
                      rintro e w3 ⟨rfl, ⟨nd2, rfl⟩⟩
                      cases r2 with
                      | true =>
                        go_wp2_with fail
                        go_ret
                        exact ⟨_, rfl, pw_below_drewN (below_alloc HB.out _) _⟩
                      | false =>
                        go_wp2_with ((with_reducible refine gate_builtin (b := .append) (xs := #[.tmp 81, .tmp 84]) rfl ?_); (try (refine gate_guard (by rfl) ?_; dsimp only)); at_builtin; refine Kd.R_append Kd.string (w0 := w) w.heap.size rfl (.tmp 81) (.tmp 84) 59 9 (.string ⟨#[]⟩) 16 rfl Try.underlying59 infoStr rfl (by decide) (by omega) (.slice A l.length cn) l x.text [.string x.text] (fun _ => True) (fun _ => False) rfl (by simp [Act.eval]) ?aP (fun _ hk => hk.elim) ?aF ?aO ?aB ?aS ?aL ?_; (case aP => exact rfl); (case aB => exact (by repeat (first | (with_reducible first | exact HB.out | apply below_alloc | apply pw_below_drewN | apply below_drew1) | exact HB.out))); (case aF => exact (fun _ _ => trivial)); (case aO => exact (by (with_reducible repeat (first | apply Kd.R_alloc | apply Kd.R_drewN | apply Kd.R_drew)); exact HL.out)); (case aS => exact (below_size (by repeat (first | (with_reducible first | exact HB.out | apply below_alloc | apply pw_below_drewN | apply below_drew1) | exact HB.out)))); (case aL => omega); intro v105 w22 ho hb hg hat)
                        have hB2 : Below w.heap.size w w22 := hb
                        have HVb := HV.out.below hB2
                        have hcp : ¬ c - k = 1 := by omega
                        have hm1j : (1 : Int) ≤ (m : Int) := by omega
                        obtain ⟨e0, e1, e2, e3⟩ := HVb k x hx
                        rw [hm] at e3
                        have HP1 := Aside0.mk (show Calls Try.prog 11 #[.slice (some ⟨bk, o + k * 4 + 4, none⟩) (m - 1) (c - k - 1), .bool false, .int .i64 (deep - 1)] w22 fun e w' => SomeBool w22 e w' by
                          have h := part_calls HR.out HVb (k + 1) (m - 1) (by omega) (by omega) hl hc
                          rw [show o + (k + 1) * 4 = o + k * 4 + 4 by omega, show c - (k + 1) = c - k - 1 by omega] at h
                          exact h)
                        have HO := Aside0.mk ho
                        clear ho hb hg hat
                        go_wp2_with fail
                        refine HP1.out.mono ?_
                        rintro e w4 ⟨b, rfl, hb4⟩
                        have hB4 := hB2.trans (hb4.mono hB2.size)
                        obtain ⟨e0', e1', e2', e3'⟩ := (HV.out.below hB4) k x hx
                        rw [hm] at e3'
                        cases b with
                        | false =>
                          go_wp2_with fail
                          go_ret
                          exact ⟨_, rfl, hB4⟩
                        | true =>
                          go_wp2_with fail
                          exact ⟨⟨k + m, _, by go_num, by omega, hmk, by rw [List.length_append]; simp; omega, ⟨Kd.R_below HO.out hb4⟩, ⟨hB4⟩⟩, by simp [intOf]; omega⟩
                  · have hti : ¬ (x.text.size : Int) ≤ 100 := by omega
                    go_wp2_with fail
                    go_ret
                    exact ⟨_, rfl, below_alloc HB.out _⟩
            · have hk9a : (x.kind == 9) = false := beq_eq_false_iff_ne.2 hk9
              have hk9b : (x.kind != 9) = true := bne_iff_ne.2 hk9
              go_wp2_with fail
              go_ret
              exact ⟨_, rfl, below_alloc HB.out _⟩
          · have h8' : (v0.kind == 8) = false := beq_eq_false_iff_ne.2 h8
            go_wp2_with fail
            refine (HP.out _ (by exact below_alloc (Below.refl _ _) _)).mono ?_
            rintro e w2 ⟨b, rfl, hb2⟩
            have hB2 := HB.out.trans ((below_one hb2).mono HB.out.size)
            have HV2 := HV.out.below hB2
            obtain ⟨c0', c1', c2', c3'⟩ := HV2 k x hx
            rw [hm] at c3'
            cases b with
            | false =>
              go_wp2_with fail
              go_ret
              exact ⟨_, rfl, hB2⟩
            | true =>
              go_wp2_with fail
              exact ⟨⟨k + m, l, by go_num, by omega, hmk, by omega, ⟨Kd.R_below HL.out (below_one hb2)⟩, ⟨hB2⟩⟩, by simp [intOf]; omega⟩
    · have hlti : (vs.length : Int) ≤ (k : Int) := by omega
      go_wp2_with fail
      go_ret
      exact ⟨_, rfl, HB.out⟩
/-- dataRight answers, whatever the row, at every depth. -/
theorem right_all : ∀ (d : Nat), RightAt ((d : Int) - 1) ∨ 21 < d := by
  intro d
  induction d with
  | zero => exact .inl (right_below (by omega))
  | succ d ih =>
    rcases ih with h | h
    · by_cases hd : d ≤ 20
      · have e : ((d + 1 : Nat) : Int) - 1 = (d : Int) := by omega
        rw [e]
        exact .inl (right_step ⟨by omega, by omega⟩ (parts_step ⟨by omega, by omega⟩ h))
      · exact .inr (by omega)
    · exact .inr (by omega)
theorem right_20 : RightAt 20 := by
  rcases right_all 21 with h | h
  · exact h
  · omega
end Go.Proofs.Ytdibcinpjkahpaa.Right
