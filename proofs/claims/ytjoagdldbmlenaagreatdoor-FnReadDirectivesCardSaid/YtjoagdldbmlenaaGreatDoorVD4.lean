import Derived.Test.YtjoagdldbmlenaaGreatDoorVD3
import Derived.Test.YtjoagdldbmlenaaGreatDoorVD2
set_option maxRecDepth 100000
set_option maxHeartbeats 8000000
set_option linter.unusedVariables false
set_option linter.unusedSimpArgs false
namespace Go.Proofs.YtjoagdldbmlenaaGreatDoor.Par
open Go.RowKit Go.Proofs.YtjoagdldbmlenaaGreatDoorW.PrintWords Keep Go.Proofs.YtjoagdldbmlenaaGreatDoor.Mod Sim Four Step Env Err Lx Ast New Tree
def VRes (E : At) (L : Nat) (r : Option (NL × Tok)) (n : Nat) (w : World) (e : Ending) (w' : World) : Prop :=
 (∃ y t' ty x, r = some (y, t') ∧ e = .returned (.tuple #[.iface ty x, .nilIface]) ∧ GVal L n y w' (.iface ty x) ∧ Keeps E.pb E.qb w w' ∧ PS E w' t') ∨ (r = none ∧ ∃ v, PErr E w v e w')
theorem ps_one {E : At} {w : World} {t : Tok} (h : PS E w t) (o : Obj) : PS E (w.alloc o) t := h.below (below_alloc (Below.refl _ _) _)
theorem val_list (E : At) (cst : Bool) (w : World) (t : Tok) (n L : Nat) (hP : PS E w t) (hL : L ≤ w.heap.size) (hEL : E.pb < L ∧ E.qb < L) (hI : Item E L (nVal E.lx cst n) (GVal L n) (if cst = true then 129 else 128) n) (hn : nu E.s t ≤ n) (hN : n ≤ 200000) (hk : t.kind = 10) :
  Calls Tryz.prog 97 #[.pointer (some ⟨E.pb, 0, none⟩), .bool cst] w fun e w' => VRes E L (nVal E.lx cst (n + 1) t) (n + 1) w e w' := by
 obtain ⟨c1, c2, c3, c4, c5, c6, c7, c8⟩ := ps_cells hP
 have hM : nVal E.lx cst (n + 1) t = (nRev (E.lx) (nVal E.lx cst n) 10 11 false n t).map fun x => (nd 17 emp emp emp 0 x.1, x.2) := by
  show (if t.kind = 10 then _ else _) = _
  rw [if_pos hk]
 have HM := aK hM
 have HLI := aK (list_any E cst (w.alloc (.cells #[.int .i64 t.kind, .int .i64 t.start, .int .i64 t.stop, .string t.value] 59)) t n L (ps_one hP _) (by simp; omega) hEL hI hn hN)
 rw [hk] at c5 HLI
 clear hP hI hM c1 c2 c3 c4 hk
 go_enter Tryz.func97, Tryz.ntmps97
 go_wp2_with fail
 refine HLI.out.mono ?_
 rintro e w2 (⟨zs, t', g, hr, rfl, hg, hk, hp⟩ | ⟨hr, ⟨g, rfl⟩, hk⟩)
 ·have HR := aK (⟨hr, hg, ((Keeps.refl E.pb E.qb w).alloc _).trans hk, hp⟩ : _ ∧ _ ∧ Keeps E.pb E.qb w w2 ∧ _)
  clear hr hg hk hp
  go_wp2_with fail
  go_ret2
  exact .inl ⟨_, t', _, _, HM.out.trans (by rw [HR.out.1]; rfl), rfl, HR.out.2.1, HR.out.2.2.1, HR.out.2.2.2⟩
 ·have HR := aK (⟨hr, ((Keeps.refl E.pb E.qb w).alloc _).trans hk⟩ : _ ∧ Keeps E.pb E.qb w w2)
  clear hr hk
  go_wp2_with fail
  go_ret2
  exact .inr ⟨HM.out.trans (by rw [HR.out.1]; rfl), _, ⟨g, rfl⟩, HR.out.2⟩
theorem val_var (E : At) (w : World) (t : Tok) (n L : Nat) (hP : PS E w t) (hL : L ≤ w.heap.size) (hk : t.kind = 3) :
  Calls Tryz.prog 97 #[.pointer (some ⟨E.pb, 0, none⟩), .bool false] w fun e w' => VRes E L (nVal E.lx false (n + 1) t) (n + 1) w e w' := by
 obtain ⟨c1, c2, c3, c4, c5, c6, c7, c8⟩ := ps_cells hP
 have hM : nVal E.lx false (n + 1) t = nVar (E.lx) t := by
  show (if t.kind = 10 then _ else if t.kind = 12 then _ else if 16 ≤ t.kind ∧ t.kind ≤ 19 then _ else if t.kind = 15 then _ else if t.kind = 3 ∧ false = false then _ else _) = _
  rw [if_neg (by omega), if_neg (by omega), if_neg (by omega), if_neg (by omega), if_pos ⟨hk, rfl⟩]
 have HM := aK hM
 have hP1 := ps_one hP (.cells #[.int .i64 t.kind, .int .i64 t.start, .int .i64 t.stop, .string t.value] 59)
 cases hv : nVar (E.lx) t with
 | some yt =>
  obtain ⟨y, t'⟩ := yt
  have HV := aK (var_yes E _ t t' y L hP1 (by simp; omega) hv)
  rw [hk] at c5 HV
  have HMV := aK hv
  clear hP hP1 hM c1 c2 c3 c4 hk hv
  go_enter Tryz.func97, Tryz.ntmps97
  go_wp2_with fail
  refine HV.out.mono ?_
  rintro e w2 ⟨g, rfl, hg, hk, hp⟩
  have HR := aK (⟨hg n, ((Keeps.refl E.pb E.qb w).alloc _).trans hk, hp⟩ : _ ∧ Keeps E.pb E.qb w w2 ∧ _)
  clear hg hk hp
  go_wp2_with fail
  go_ret2
  exact .inl ⟨y, t', _, _, HM.out.trans HMV.out, rfl, HR.out.1, HR.out.2.1, HR.out.2.2⟩
 | none =>
  have HV := aK (var_no E _ t hP1 hv)
  rw [hk] at c5 HV
  have HMV := aK hv
  clear hP hP1 hM c1 c2 c3 c4 hk hv
  go_enter Tryz.func97, Tryz.ntmps97
  go_wp2_with fail
  refine HV.out.mono ?_
  rintro e w2 ⟨⟨g, rfl⟩, hk⟩
  have HR := aK (((Keeps.refl E.pb E.qb w).alloc _).trans hk)
  clear hk
  go_wp2_with fail
  go_ret2
  exact .inr ⟨HM.out.trans HMV.out, _, ⟨g, rfl⟩, HR.out⟩
theorem val_int (E : At) (cst : Bool) (w : World) (t : Tok) (n L : Nat) (hP : PS E w t) (hL : L ≤ w.heap.size) (hk : t.kind = 16)  :
  Calls Tryz.prog 97 #[.pointer (some ⟨E.pb, 0, none⟩), .bool cst] w fun e w' => VRes E L (nVal E.lx cst (n + 1) t) (n + 1) w e w' := by
 obtain ⟨c1, c2, c3, c4, c5, c6, c7, c8⟩ := ps_cells hP
 have hlw := ps_lt hP
 have hM : nVal E.lx cst (n + 1) t = (E.lx t.stop).map fun t' => (nd 12 emp emp t.value 0 [], t') := by
  show (if t.kind = 10 then _ else if t.kind = 12 then _ else if 16 ≤ t.kind ∧ t.kind ≤ 19 then _ else if t.kind = 15 then (if t.value.toList = nullT.toList then _ else _) else _) = _
  rw [if_neg (by omega), if_neg (by omega), if_pos (by omega), if_pos hk]
 have HM := aK hM
 have hP1 := ps_one hP (.cells #[.int .i64 t.kind, .int .i64 t.start, .int .i64 t.stop, .string t.value] 59)
 obtain ⟨r1, r3⟩ := token_cells (w2 := w) t
 cases hv : E.lx t.stop with
 | some t' =>
  have HA := aK (advance_yes E _ t t' hP1 hv)
  have HMV := aK (hM.trans (by rw [hv]; rfl) : nVal E.lx cst (n + 1) t = some (nd 12 emp emp t.value 0 [], t'))
  have HR1 := aK r1
  have HR3 := aK r3
  rw [hk] at c5 HA HR1 HR3
  clear hP hP1 hM c1 c2 c3 c4 hk hv r1 r3
  go_enter Tryz.func97, Tryz.ntmps97
  go_wp2_with fail
  refine HA.out.mono ?_
  rintro e w2 ⟨rfl, hk, hp⟩
  have q1 := hk.cell HR1.out (by omega) (by omega)
  have q3 := hk.cell HR3.out (by omega) (by omega)
  have hsz := hk.size
  have HK := aK (((Keeps.refl E.pb E.qb w).alloc _).trans hk)
  have HP2 := aK hp
  have hLw : L ≤ w2.heap.size := by have h := HK.out.size; omega
  have HL := aK (fun W (hb : Below w2.heap.size w2 W) => loc_any E W t' t.start L (hp.below hb) (by have := hb.size; omega))
  clear hk hp hsz
  go_wp2_with fail
  go_region_with (first | (go_at_call 62; refine (HL.out (World.drew _) (below_drew (Below.refl _ _))).mono ?_; rintro e w3 ⟨v, rfl, hg, ⟨a, rfl⟩, hb⟩; have q1' := pw_cell_below hb q1; have q3' := pw_cell_below hb q3) | (go_at_call 109; refine (new_IntValue w3.heap.size _ a t.value _ (Blk.new _ _ _)).mono ?_; rintro e w5 ⟨g, rfl, hn, ⟨s5, hb5⟩, hk5⟩))
  all_goals
   have hb' := aK ((below_drew (Below.refl w2.heap.size w2)).trans hb)
   have hb5' := aK hb5
   have hk5' := aK hk5
   have hg' := aK hg
   clear hb hb5 hk5 hg
   go_wp2_with fail
   have hbb := made_two hb'.out hk5'.out
   have hb45 := made_below hk5'.out
   have hLn : L ≤ g := by have h2 := hb'.out.size; omega
   refine bodyPost_ret (v := .tuple #[.iface 125 (.pointer (some ⟨g, 0, none⟩)), .nilIface]) (by simp [results, Tryz.results97, go_sem]) rfl (.inl ⟨_, t', _, _, HMV.out, rfl, ⟨g, _, .of_blk hb5'.out hLn rfl (by decide), st_gloc hg'.out hb45, .inr (.inl ⟨rfl, _, .of_blk hb5'.out hLn rfl (by decide), rfl⟩)⟩, HK.out.then hbb, HP2.out.below hbb⟩)
 | none =>
  have HA := aK (advance_no E _ t hP1 hv)
  have HMV := aK (hM.trans (by rw [hv]; rfl) : nVal E.lx cst (n + 1) t = none)
  have HR3 := aK r3
  rw [hk] at c5 HA
  clear hP hP1 hM c1 c2 c3 c4 hk hv r1 r3
  go_enter Tryz.func97, Tryz.ntmps97
  go_wp2_with fail
  refine HA.out.mono ?_
  rintro e w2 ⟨⟨g, rfl⟩, hk⟩
  have HR := aK (((Keeps.refl E.pb E.qb w).alloc _).trans hk)
  clear hk
  go_wp2_with fail
  go_ret2
  exact .inr ⟨HMV.out, _, ⟨g, rfl⟩, HR.out⟩
theorem val_float (E : At) (cst : Bool) (w : World) (t : Tok) (n L : Nat) (hP : PS E w t) (hL : L ≤ w.heap.size) (hk : t.kind = 17)  :
  Calls Tryz.prog 97 #[.pointer (some ⟨E.pb, 0, none⟩), .bool cst] w fun e w' => VRes E L (nVal E.lx cst (n + 1) t) (n + 1) w e w' := by
 obtain ⟨c1, c2, c3, c4, c5, c6, c7, c8⟩ := ps_cells hP
 have hlw := ps_lt hP
 have hM : nVal E.lx cst (n + 1) t = (E.lx t.stop).map fun t' => (nd 13 emp emp t.value 0 [], t') := by
  show (if t.kind = 10 then _ else if t.kind = 12 then _ else if 16 ≤ t.kind ∧ t.kind ≤ 19 then _ else if t.kind = 15 then (if t.value.toList = nullT.toList then _ else _) else _) = _
  rw [if_neg (by omega), if_neg (by omega), if_pos (by omega), if_neg (by omega), if_pos hk]
 have HM := aK hM
 have hP1 := ps_one hP (.cells #[.int .i64 t.kind, .int .i64 t.start, .int .i64 t.stop, .string t.value] 59)
 obtain ⟨r1, r3⟩ := token_cells (w2 := w) t
 cases hv : E.lx t.stop with
 | some t' =>
  have HA := aK (advance_yes E _ t t' hP1 hv)
  have HMV := aK (hM.trans (by rw [hv]; rfl) : nVal E.lx cst (n + 1) t = some (nd 13 emp emp t.value 0 [], t'))
  have HR1 := aK r1
  have HR3 := aK r3
  rw [hk] at c5 HA HR1 HR3
  clear hP hP1 hM c1 c2 c3 c4 hk hv r1 r3
  go_enter Tryz.func97, Tryz.ntmps97
  go_wp2_with fail
  refine HA.out.mono ?_
  rintro e w2 ⟨rfl, hk, hp⟩
  have q1 := hk.cell HR1.out (by omega) (by omega)
  have q3 := hk.cell HR3.out (by omega) (by omega)
  have hsz := hk.size
  have HK := aK (((Keeps.refl E.pb E.qb w).alloc _).trans hk)
  have HP2 := aK hp
  have hLw : L ≤ w2.heap.size := by have h := HK.out.size; omega
  have HL := aK (fun W (hb : Below w2.heap.size w2 W) => loc_any E W t' t.start L (hp.below hb) (by have := hb.size; omega))
  clear hk hp hsz
  go_wp2_with fail
  go_region_with (first | (go_at_call 62; refine (HL.out (World.drew _) (below_drew (Below.refl _ _))).mono ?_; rintro e w3 ⟨v, rfl, hg, ⟨a, rfl⟩, hb⟩; have q1' := pw_cell_below hb q1; have q3' := pw_cell_below hb q3) | (go_at_call 110; refine (new_FloatValue w3.heap.size _ a t.value _ (Blk.new _ _ _)).mono ?_; rintro e w5 ⟨g, rfl, hn, ⟨s5, hb5⟩, hk5⟩))
  all_goals
   have hb' := aK ((below_drew (Below.refl w2.heap.size w2)).trans hb)
   have hb5' := aK hb5
   have hk5' := aK hk5
   have hg' := aK hg
   clear hb hb5 hk5 hg
   go_wp2_with fail
   have hbb := made_two hb'.out hk5'.out
   have hb45 := made_below hk5'.out
   have hLn : L ≤ g := by have h2 := hb'.out.size; omega
   refine bodyPost_ret (v := .tuple #[.iface 127 (.pointer (some ⟨g, 0, none⟩)), .nilIface]) (by simp [results, Tryz.results97, go_sem]) rfl (.inl ⟨_, t', _, _, HMV.out, rfl, ⟨g, _, .of_blk hb5'.out hLn rfl (by decide), st_gloc hg'.out hb45, .inr (.inr (.inl ⟨rfl, _, .of_blk hb5'.out hLn rfl (by decide), rfl⟩))⟩, HK.out.then hbb, HP2.out.below hbb⟩)
 | none =>
  have HA := aK (advance_no E _ t hP1 hv)
  have HMV := aK (hM.trans (by rw [hv]; rfl) : nVal E.lx cst (n + 1) t = none)
  have HR3 := aK r3
  rw [hk] at c5 HA
  clear hP hP1 hM c1 c2 c3 c4 hk hv r1 r3
  go_enter Tryz.func97, Tryz.ntmps97
  go_wp2_with fail
  refine HA.out.mono ?_
  rintro e w2 ⟨⟨g, rfl⟩, hk⟩
  have HR := aK (((Keeps.refl E.pb E.qb w).alloc _).trans hk)
  clear hk
  go_wp2_with fail
  go_ret2
  exact .inr ⟨HMV.out, _, ⟨g, rfl⟩, HR.out⟩
theorem val_enum (E : At) (cst : Bool) (w : World) (t : Tok) (n L : Nat) (hP : PS E w t) (hL : L ≤ w.heap.size) (hk : t.kind = 15) (h1 : t.value.toList ≠ [116, 114, 117, 101]) (h2 : t.value.toList ≠ [102, 97, 108, 115, 101]) (h3 : ¬ t.value.toList = nullT.toList) :
  Calls Tryz.prog 97 #[.pointer (some ⟨E.pb, 0, none⟩), .bool cst] w fun e w' => VRes E L (nVal E.lx cst (n + 1) t) (n + 1) w e w' := by
 obtain ⟨c1, c2, c3, c4, c5, c6, c7, c8⟩ := ps_cells hP
 have hlw := ps_lt hP
 have hM : nVal E.lx cst (n + 1) t = (E.lx t.stop).map fun t' => (nd 16 t.value emp emp 0 [], t') := by
  show (if t.kind = 10 then _ else if t.kind = 12 then _ else if 16 ≤ t.kind ∧ t.kind ≤ 19 then _ else if t.kind = 15 then (if t.value.toList = nullT.toList then _ else _) else _) = _
  rw [if_neg (by omega), if_neg (by omega), if_neg (by omega), if_pos (by omega), if_neg h3]
  have hw : word t.value = nd 16 t.value emp emp 0 [] := by
   unfold word
   rw [if_neg (fun e => h1 (e.trans (by decide +kernel))), if_neg (fun e => h2 (e.trans (by decide +kernel)))]
  rw [hw]
 have HM := aK hM
 have hP1 := ps_one hP (.cells #[.int .i64 t.kind, .int .i64 t.start, .int .i64 t.stop, .string t.value] 59)
 obtain ⟨r1, r3⟩ := token_cells (w2 := w) t
 have b1 : (t.value.toList == [116, 114, 117, 101]) = false := beq_eq_false_iff_ne.2 h1
 have b2 : (t.value.toList == [102, 97, 108, 115, 101]) = false := beq_eq_false_iff_ne.2 h2
 have b3 : (!(t.value.toList == [110, 117, 108, 108])) = true := by
  have h : (t.value.toList == [110, 117, 108, 108]) = false := beq_eq_false_iff_ne.2 (fun e => h3 (e.trans (by decide +kernel)))
  rw [h]; rfl
 clear h1 h2 h3
 cases hv : E.lx t.stop with
 | some t' =>
  have HA := aK (advance_yes E _ t t' hP1 hv)
  have HMV := aK (hM.trans (by rw [hv]; rfl) : nVal E.lx cst (n + 1) t = some (nd 16 t.value emp emp 0 [], t'))
  have HR1 := aK r1
  have HR3 := aK r3
  rw [hk] at c5 HA HR1 HR3
  clear hP hP1 hM c1 c2 c3 c4 hk hv r1 r3
  go_enter Tryz.func97, Tryz.ntmps97
  go_wp2_with fail
  refine HA.out.mono ?_
  rintro e w2 ⟨rfl, hk, hp⟩
  have q1 := hk.cell HR1.out (by omega) (by omega)
  have q3 := hk.cell HR3.out (by omega) (by omega)
  have hsz := hk.size
  have HK := aK (((Keeps.refl E.pb E.qb w).alloc _).trans hk)
  have HP2 := aK hp
  have hLw : L ≤ w2.heap.size := by have h := HK.out.size; omega
  have HL := aK (fun W (hb : Below w2.heap.size w2 W) => loc_any E W t' t.start L (hp.below hb) (by have := hb.size; omega))
  clear hk hp hsz
  go_wp2_with fail
  go_region_with (first | (go_at_call 62; refine (HL.out (World.drew _) (below_drew (Below.refl _ _))).mono ?_; rintro e w3 ⟨v, rfl, hg, ⟨a, rfl⟩, hb⟩; have q1' := pw_cell_below hb q1; have q3' := pw_cell_below hb q3) | (go_at_call 113; refine (new_EnumValue w3.heap.size _ a t.value _ (Blk.new _ _ _)).mono ?_; rintro e w5 ⟨g, rfl, hn, ⟨s5, hb5⟩, hk5⟩))
  all_goals
   have hb' := aK ((below_drew (Below.refl w2.heap.size w2)).trans hb)
   have hb5' := aK hb5
   have hk5' := aK hk5
   have hg' := aK hg
   clear hb hb5 hk5 hg
   go_wp2_with fail
   have hbb := made_two hb'.out hk5'.out
   have hb45 := made_below hk5'.out
   have hLn : L ≤ g := by have h2 := hb'.out.size; omega
   refine bodyPost_ret (v := .tuple #[.iface 134 (.pointer (some ⟨g, 0, none⟩)), .nilIface]) (by simp [results, Tryz.results97, go_sem]) rfl (.inl ⟨_, t', _, _, HMV.out, rfl, ⟨g, _, .of_blk hb5'.out hLn rfl (by decide), st_gloc hg'.out hb45, .inr (.inr (.inr (.inr (.inr (.inl ⟨rfl, _, .of_blk hb5'.out hLn rfl (by decide), rfl⟩)))))⟩, HK.out.then hbb, HP2.out.below hbb⟩)
 | none =>
  have HA := aK (advance_no E _ t hP1 hv)
  have HMV := aK (hM.trans (by rw [hv]; rfl) : nVal E.lx cst (n + 1) t = none)
  have HR3 := aK r3
  rw [hk] at c5 HA
  clear hP hP1 hM c1 c2 c3 c4 hk hv r1 r3
  go_enter Tryz.func97, Tryz.ntmps97
  go_wp2_with fail
  refine HA.out.mono ?_
  rintro e w2 ⟨⟨g, rfl⟩, hk⟩
  have HR := aK (((Keeps.refl E.pb E.qb w).alloc _).trans hk)
  clear hk
  go_wp2_with fail
  go_ret2
  exact .inr ⟨HMV.out, _, ⟨g, rfl⟩, HR.out⟩
theorem val_bool (E : At) (cst : Bool) (w : World) (t : Tok) (n L : Nat) (hP : PS E w t) (hL : L ≤ w.heap.size) (hk : t.kind = 15) (h1 : t.value.toList = [116, 114, 117, 101] ∨ t.value.toList = [102, 97, 108, 115, 101]) :
  Calls Tryz.prog 97 #[.pointer (some ⟨E.pb, 0, none⟩), .bool cst] w fun e w' => VRes E L (nVal E.lx cst (n + 1) t) (n + 1) w e w' := by
 obtain ⟨c1, c2, c3, c4, c5, c6, c7, c8⟩ := ps_cells hP
 have hlw := ps_lt hP
 have hnull : ¬ t.value.toList = nullT.toList := by
  rcases h1 with h | h
  ·rw [h]; decide +kernel
  ·rw [h]; decide +kernel
 have hM : nVal E.lx cst (n + 1) t = (E.lx t.stop).map fun t' => (word t.value, t') := by
  show (if t.kind = 10 then _ else if t.kind = 12 then _ else if 16 ≤ t.kind ∧ t.kind ≤ 19 then _ else if t.kind = 15 then (if t.value.toList = nullT.toList then _ else _) else _) = _
  rw [if_neg (by omega), if_neg (by omega), if_neg (by omega), if_pos (by omega), if_neg hnull]
 have HM := aK hM
 have hP1 := ps_one hP (.cells #[.int .i64 t.kind, .int .i64 t.start, .int .i64 t.stop, .string t.value] 59)
 obtain ⟨r1, r3⟩ := token_cells (w2 := w) t
 have hb : (t.value.toList == [116, 114, 117, 101]) = true ∧ (t.value.toList == [102, 97, 108, 115, 101]) = false ∧ Aside0 (word t.value = nd 15 emp emp emp (if true = true then 1 else 0) []) ∨ (t.value.toList == [116, 114, 117, 101]) = false ∧ (t.value.toList == [102, 97, 108, 115, 101]) = true ∧ Aside0 (word t.value = nd 15 emp emp emp (if false = true then 1 else 0) []) := by
  rcases h1 with h | h
  ·exact .inl ⟨by rw [h]; decide, by rw [h]; decide, ⟨by unfold word; rw [if_pos (h.trans (by decide +kernel))]; rfl⟩⟩
  ·refine .inr ⟨by rw [h]; decide, by rw [h]; decide, ⟨?_⟩⟩
   unfold word
   rw [if_neg (by rw [h]; decide +kernel), if_pos (h.trans (by decide +kernel))]; rfl
 clear h1 hnull
 cases hv : E.lx t.stop with
 | some t' =>
  have HA := aK (advance_yes E _ t t' hP1 hv)
  have HMV := aK (hM.trans (by rw [hv]; rfl) : nVal E.lx cst (n + 1) t = some (word t.value, t'))
  have HR1 := aK r1
  have HR3 := aK r3
  rw [hk] at c5 HA HR1 HR3
  clear hP hP1 hM c1 c2 c3 c4 hk hv r1 r3
  rcases hb with ⟨b1, b2, HW⟩ | ⟨b1, b2, HW⟩
  all_goals
   go_enter Tryz.func97, Tryz.ntmps97
   go_wp2_with fail
   refine HA.out.mono ?_
   rintro e w2 ⟨rfl, hk, hp⟩
   have q1 := hk.cell HR1.out (by omega) (by omega)
   have q3 := hk.cell HR3.out (by omega) (by omega)
   have hsz := hk.size
   have HK := aK (((Keeps.refl E.pb E.qb w).alloc _).trans hk)
   have HP2 := aK hp
   have hLw : L ≤ w2.heap.size := by have h := HK.out.size; omega
   have HL := aK (loc_any E w2 t' t.start L hp hLw)
   clear hk hp hsz
   go_wp2_with fail
   refine HL.out.mono ?_
   rintro e w3 ⟨v, rfl, hg, ⟨a, rfl⟩, hb⟩
   have hb' := aK hb
   have hg' := aK hg
   clear hb hg
   go_wp2_with fail
   refine (new_BooleanValue w3.heap.size _ a _ _ (Blk.new _ _ _)).mono ?_
   rintro e w5 ⟨g, rfl, hn, ⟨s5, hb5⟩, hk5⟩
   have hb5' := aK hb5
   have hk5' := aK hk5
   clear hb5 hk5
   go_wp2_with fail
   have hbb := made_two hb'.out hk5'.out
   have hb45 := made_below hk5'.out
   have hLn : L ≤ g := by have h2 := hb'.out.size; omega
   refine bodyPost_ret (v := .tuple #[.iface 131 (.pointer (some ⟨g, 0, none⟩)), .nilIface]) (by simp [results, Tryz.results97, go_sem]) rfl (.inl ⟨_, t', _, _, HMV.out, rfl, ⟨g, _, .of_blk hb5'.out hLn rfl (by decide), st_gloc hg'.out hb45, .inr (.inr (.inr (.inr (.inl ⟨rfl, _, .of_blk hb5'.out hLn rfl (by decide), HW.out⟩))))⟩, HK.out.then hbb, HP2.out.below hbb⟩)
 | none =>
  have HA := aK (advance_no E _ t hP1 hv)
  have HMV := aK (hM.trans (by rw [hv]; rfl) : nVal E.lx cst (n + 1) t = none)
  rw [hk] at c5 HA
  clear hP hP1 hM c1 c2 c3 c4 hk hv r1 r3
  rcases hb with ⟨b1, b2, HW⟩ | ⟨b1, b2, HW⟩
  all_goals
   go_enter Tryz.func97, Tryz.ntmps97
   go_wp2_with fail
   refine HA.out.mono ?_
   rintro e w2 ⟨⟨g, rfl⟩, hk⟩
   have HR := aK (((Keeps.refl E.pb E.qb w).alloc _).trans hk)
   clear hk
   go_wp2_with fail
   go_ret2
   exact .inr ⟨HMV.out, _, ⟨g, rfl⟩, HR.out⟩
theorem val_null (E : At) (cst : Bool) (w : World) (t : Tok) (n L : Nat) (hP : PS E w t) (hk : t.kind = 15) (h3 : t.value.toList = nullT.toList) :
  Calls Tryz.prog 97 #[.pointer (some ⟨E.pb, 0, none⟩), .bool cst] w fun e w' => VRes E L (nVal E.lx cst (n + 1) t) (n + 1) w e w' := by
 obtain ⟨c1, c2, c3, c4, c5, c6, c7, c8⟩ := ps_cells hP
 have hM : nVal E.lx cst (n + 1) t = none := by
  show (if t.kind = 10 then _ else if t.kind = 12 then _ else if 16 ≤ t.kind ∧ t.kind ≤ 19 then _ else if t.kind = 15 then (if t.value.toList = nullT.toList then _ else _) else _) = _
  rw [if_neg (by omega), if_neg (by omega), if_neg (by omega), if_pos (by omega), if_pos h3]
 have HM := aK hM
 have HU := aK (unexpected_any E _ t (ps_one hP (.cells #[.int .i64 t.kind, .int .i64 t.start, .int .i64 t.stop, .string t.value] 59)))
 have b1 : (t.value.toList == [116, 114, 117, 101]) = false := by rw [h3]; decide +kernel
 have b2 : (t.value.toList == [102, 97, 108, 115, 101]) = false := by rw [h3]; decide +kernel
 have b3 : (!(t.value.toList == [110, 117, 108, 108])) = false := by rw [h3]; decide +kernel
 rw [hk] at c5 HU
 clear hP hM c1 c2 c3 c4 hk h3
 go_enter Tryz.func97, Tryz.ntmps97
 go_wp2_with fail
 refine HU.out.mono ?_
 rintro e w2 ⟨⟨g, rfl⟩, hb⟩
 have HR := aK (((Keeps.refl E.pb E.qb w).alloc _).then hb)
 clear hb
 go_wp2_with fail
 go_ret2
 exact .inr ⟨HM.out, _, ⟨g, rfl⟩, HR.out⟩
theorem val_bad (E : At) (cst : Bool) (w : World) (t : Tok) (n L : Nat) (hP : PS E w t) (hk : t.kind ≠ 10 ∧ t.kind ≠ 12 ∧ t.kind ≠ 16 ∧ t.kind ≠ 17 ∧ t.kind ≠ 19 ∧ t.kind ≠ 18 ∧ t.kind ≠ 15 ∧ t.kind ≠ 3) :
  Calls Tryz.prog 97 #[.pointer (some ⟨E.pb, 0, none⟩), .bool cst] w fun e w' => VRes E L (nVal E.lx cst (n + 1) t) (n + 1) w e w' := by
 obtain ⟨c1, c2, c3, c4, c5, c6, c7, c8⟩ := ps_cells hP
 obtain ⟨k1, k2, k3, k4, k5, k6, k7, k8⟩ := hk
 have hM : nVal E.lx cst (n + 1) t = none := by
  show (if t.kind = 10 then _ else if t.kind = 12 then _ else if 16 ≤ t.kind ∧ t.kind ≤ 19 then _ else if t.kind = 15 then (if t.value.toList = nullT.toList then _ else _) else if t.kind = 3 ∧ cst = false then _ else _) = _
  rw [if_neg k1, if_neg k2, if_neg (by omega), if_neg k7, if_neg (fun h => k8 h.1)]
 have HM := aK hM
 have HU := aK (unexpected_any E _ t (ps_one hP (.cells #[.int .i64 t.kind, .int .i64 t.start, .int .i64 t.stop, .string t.value] 59)))
 have f1 : (t.kind == 10) = false := beq_eq_false_iff_ne.2 k1
 have f2 : (t.kind == 12) = false := beq_eq_false_iff_ne.2 k2
 have f3 : (t.kind == 16) = false := beq_eq_false_iff_ne.2 k3
 have f4 : (t.kind == 17) = false := beq_eq_false_iff_ne.2 k4
 have f5 : (t.kind == 19) = false := beq_eq_false_iff_ne.2 k5
 have f6 : (t.kind == 18) = false := beq_eq_false_iff_ne.2 k6
 have f7 : (t.kind == 15) = false := beq_eq_false_iff_ne.2 k7
 have f8 : (t.kind == 3) = false := beq_eq_false_iff_ne.2 k8
 clear hP hM c1 c2 c3 c4 k1 k2 k3 k4 k5 k6 k7 k8
 go_enter Tryz.func97, Tryz.ntmps97
 go_wp2_with fail
 refine HU.out.mono ?_
 rintro e w2 ⟨⟨g, rfl⟩, hb⟩
 have HR := aK (((Keeps.refl E.pb E.qb w).alloc _).then hb)
 clear hb
 go_wp2_with fail
 go_ret2
 exact .inr ⟨HM.out, _, ⟨g, rfl⟩, HR.out⟩
theorem val_cvar (E : At) (w : World) (t : Tok) (n L : Nat) (hP : PS E w t) (hk : t.kind = 3) :
  Calls Tryz.prog 97 #[.pointer (some ⟨E.pb, 0, none⟩), .bool true] w fun e w' => VRes E L (nVal E.lx true (n + 1) t) (n + 1) w e w' := by
 obtain ⟨c1, c2, c3, c4, c5, c6, c7, c8⟩ := ps_cells hP
 have hM : nVal E.lx true (n + 1) t = none := by
  show (if t.kind = 10 then _ else if t.kind = 12 then _ else if 16 ≤ t.kind ∧ t.kind ≤ 19 then _ else if t.kind = 15 then (if t.value.toList = nullT.toList then _ else _) else if t.kind = 3 ∧ true = false then _ else _) = _
  rw [if_neg (by omega), if_neg (by omega), if_neg (by omega), if_neg (by omega), if_neg (fun h => by cases h.2)]
 have HM := aK hM
 have HU := aK (unexpected_any E _ t (ps_one hP (.cells #[.int .i64 t.kind, .int .i64 t.start, .int .i64 t.stop, .string t.value] 59)))
 rw [hk] at c5 HU
 clear hP hM c1 c2 c3 c4 hk
 go_enter Tryz.func97, Tryz.ntmps97
 go_wp2_with fail
 refine HU.out.mono ?_
 rintro e w2 ⟨⟨g, rfl⟩, hb⟩
 have HR := aK (((Keeps.refl E.pb E.qb w).alloc _).then hb)
 clear hb
 go_wp2_with fail
 go_ret2
 exact .inr ⟨HM.out, _, ⟨g, rfl⟩, HR.out⟩
theorem strlit_any (E : At) (w : World) (t : Tok) (n L : Nat) (hP : PS E w t) (hL : L ≤ w.heap.size) :
  Calls Tryz.prog 111 #[.pointer (some ⟨E.pb, 0, none⟩)] w fun e w' =>
   (∃ t' g, E.lx t.stop = some t' ∧ e = .returned (.tuple #[.pointer (some ⟨g, 0, none⟩), .nilIface]) ∧ GVal L (n + 1) (nd 14 emp emp t.value 0 []) w' (.iface 129 (ptr g)) ∧ Keeps E.pb E.qb w w' ∧ PS E w' t') ∨ (E.lx t.stop = none ∧ PErr E w (.pointer none) e w') := by
 obtain ⟨c1, c2, c3, c4, c5, c6, c7, c8⟩ := ps_cells hP
 have hlw := ps_lt hP
 have hP1 := ps_one hP (.cells #[.int .i64 t.kind, .int .i64 t.start, .int .i64 t.stop, .string t.value] 59)
 obtain ⟨r1, r3⟩ := token_cells (w2 := w) t
 obtain ⟨r, hv⟩ : ∃ r, E.lx t.stop = r := ⟨_, rfl⟩
 cases r with
 | some t' =>
  have HA := aK (advance_yes E _ t t' hP1 hv)
  have HR1 := aK r1
  have HR3 := aK r3
  have HLX := aK hv
  clear hP hP1 c1 c2 c3 c4 hv r1 r3
  go_enter Tryz.func111, Tryz.ntmps111
  go_wp2_with fail
  refine HA.out.mono ?_
  rintro e w2 ⟨rfl, hk, hp⟩
  have q1 := hk.cell HR1.out (by omega) (by omega)
  have q3 := hk.cell HR3.out (by omega) (by omega)
  have hsz := hk.size
  have HK := aK (((Keeps.refl E.pb E.qb w).alloc _).trans hk)
  have HP2 := aK hp
  have hLw : L ≤ w2.heap.size := by have h := HK.out.size; omega
  have HL := aK (fun W (hb : Below w2.heap.size w2 W) => loc_any E W t' t.start L (hp.below hb) (by have := hb.size; omega))
  clear hk hp hsz
  go_wp2_with fail
  go_region_with (first | (go_at_call 62; refine (HL.out (World.drew _) (below_drew (Below.refl _ _))).mono ?_; rintro e w3 ⟨v, rfl, hg, ⟨a, rfl⟩, hb⟩; have q1' := pw_cell_below hb q1; have q3' := pw_cell_below hb q3) | (go_at_call 133; refine (new_StringValue w3.heap.size _ a t.value _ (Blk.new _ _ _)).mono ?_; rintro e w5 ⟨g, rfl, hn, ⟨s5, hb5⟩, hk5⟩))
  all_goals
   have hb' := aK ((below_drew (Below.refl w2.heap.size w2)).trans hb)
   have hb5' := aK hb5
   have hk5' := aK hk5
   have hg' := aK hg
   clear hb hb5 hk5 hg
   go_wp2_with fail
   have hbb := made_two hb'.out hk5'.out
   have hb45 := made_below hk5'.out
   have hLn : L ≤ g := by have h2 := hb'.out.size; omega
   refine bodyPost_ret (v := .tuple #[.pointer (some ⟨g, 0, none⟩), .nilIface]) (by simp [results, Tryz.results111, go_sem]) rfl (.inl ⟨t', g, HLX.out, rfl, ⟨g, _, .of_blk hb5'.out hLn rfl (by decide), st_gloc hg'.out hb45, .inr (.inr (.inr (.inl ⟨rfl, _, .of_blk hb5'.out hLn rfl (by decide), rfl⟩)))⟩, HK.out.then hbb, HP2.out.below hbb⟩)
 | none =>
  have HA := aK (advance_no E _ t hP1 hv)
  have HR3 := aK r3
  have HLX := aK hv
  clear hP hP1 c1 c2 c3 c4 hv r1 r3
  go_enter Tryz.func111, Tryz.ntmps111
  go_wp2_with fail
  refine HA.out.mono ?_
  rintro e w2 ⟨⟨g, rfl⟩, hk⟩
  have HR := aK (((Keeps.refl E.pb E.qb w).alloc _).trans hk)
  clear hk
  go_wp2_with fail
  go_ret2
  exact .inr ⟨HLX.out, ⟨g, rfl⟩, HR.out⟩
end Go.Proofs.YtjoagdldbmlenaaGreatDoor.Par
