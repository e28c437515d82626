import Derived.Test.YtjoagdldbmlenaaGreatDoorVA4
import Derived.Deep.RegionWith
import Derived.BigRegion
set_option maxRecDepth 100000
set_option maxHeartbeats 8000000
set_option linter.unusedVariables false
set_option linter.unusedSimpArgs false
namespace Go.Proofs.YtjoagdldbmlenaaGreatDoor.Par
open Go.RowKit Go.Proofs.YtjoagdldbmlenaaGreatDoorW.PrintWords Keep Go.Proofs.YtjoagdldbmlenaaGreatDoor.Mod Sim Four Step Env Err Lx
def PBlk (E : At) (w : World) (pe : Int) (t : Tok) : Prop := Blk w E.pb 66 #[.func (.func 73) #[] #[.pointer (some ⟨E.qb, 0, none⟩), .pointer (some ⟨E.xb, 0, none⟩)], .pointer (some ⟨E.sb, 0, none⟩), .bool false, .bool false, .int .i64 pe, .int .i64 t.kind, .int .i64 t.start, .int .i64 t.stop, .string t.value]
structure PS (E : At) (w : World) (t : Tok) : Prop where
 blk : ∃ pe, PBlk E w pe t
 q : Blk w E.qb 3 #[.int .i64 t.stop]
 src : Src E w
 far : Far E
 le : t.stop ≤ E.s.size
 ask : E.ask t.stop
section
variable {E : At} {w w' : World} {t : Tok} {pe : Int}
theorem PBlk.cells (h : PBlk E w pe t) : w.cell? ⟨E.pb, 0, none⟩ = some (.func (.func 73) #[] #[.pointer (some ⟨E.qb, 0, none⟩), .pointer (some ⟨E.xb, 0, none⟩)]) ∧ w.cell? ⟨E.pb, 1, none⟩ = some (.pointer (some ⟨E.sb, 0, none⟩)) ∧ w.cell? ⟨E.pb, 2, none⟩ = some (.bool false) ∧ w.cell? ⟨E.pb, 3, none⟩ = some (.bool false) ∧ w.cell? ⟨E.pb, 4, none⟩ = some (.int .i64 pe) ∧
  w.cell? ⟨E.pb, 5, none⟩ = some (.int .i64 t.kind) ∧ w.cell? ⟨E.pb, 6, none⟩ = some (.int .i64 t.start) ∧ w.cell? ⟨E.pb, 7, none⟩ = some (.int .i64 t.stop) ∧ w.cell? ⟨E.pb, 8, none⟩ = some (.string t.value) :=
 ⟨(Blk.cell h 0).trans rfl, (Blk.cell h 1).trans rfl, (Blk.cell h 2).trans rfl, (Blk.cell h 3).trans rfl, (Blk.cell h 4).trans rfl, (Blk.cell h 5).trans rfl, (Blk.cell h 6).trans rfl, (Blk.cell h 7).trans rfl, (Blk.cell h 8).trans rfl⟩
theorem PS.below (h : PS E w t) (hb : Below w.heap.size w w') : PS E w' t := by
 obtain ⟨⟨pe, h1⟩, h2, h3, h4, h5, h6⟩ := h
 exact ⟨⟨pe, Blk.below h1 hb h1.lt⟩, Blk.below h2 hb h2.lt, h3.below hb, h4, h5, h6⟩
end
theorem lex_some (E : At) (w : World) (p : Nat) (v : Int) (t : Tok) (hS : Src E w) (hp : E.ask p) (hQ : Blk w E.qb 3 #[.int .i64 v]) (h0 : 0 < p ∨ v = 0) (hF : Far E) (ht : E.lx p = some t) :
  Calls Tryz.prog 73 #[.int .i64 p, .pointer (some ⟨E.qb, 0, none⟩), .pointer (some ⟨E.xb, 0, none⟩)] w fun e w' =>
   e = .returned (.tuple #[tokV t, .nilIface]) ∧ Keeps E.qb E.qb w w' ∧ Blk w' E.qb 3 #[.int .i64 t.stop] :=
 (lex_any E w p v hS hp hQ h0 hF).mono fun e w' ⟨a, c⟩ => by
  rcases c with ⟨t', h1, h2, b⟩ | ⟨h1, _⟩
  ·rw [ht] at h1
   obtain rfl := Option.some.inj h1
   exact ⟨h2, a, b⟩
  ·rw [ht] at h1; cases h1
theorem lex_none (E : At) (w : World) (p : Nat) (v : Int) (hS : Src E w) (hp : E.ask p) (hQ : Blk w E.qb 3 #[.int .i64 v]) (h0 : 0 < p ∨ v = 0) (hF : Far E) (ht : E.lx p = none) :
  Calls Tryz.prog 73 #[.int .i64 p, .pointer (some ⟨E.qb, 0, none⟩), .pointer (some ⟨E.xb, 0, none⟩)] w fun e w' =>
   (∃ g, e = .returned (.tuple #[zeroT, errV g])) ∧ Keeps E.qb E.qb w w' :=
 (lex_any E w p v hS hp hQ h0 hF).mono fun e w' ⟨a, c⟩ => by
  rcases c with ⟨t', h1, h2, _⟩ | ⟨_, h2⟩
  ·rw [ht] at h1; cases h1
  ·exact ⟨h2, a⟩
theorem keeps_widen {p q : Nat} {w w' : World} (h : Keeps q q w w') : Keeps p q w w' := ⟨h.os, h.tape, h.output, h.size, fun k hk h1 h2 => h.block k hk h2 h2, h.shape⟩
theorem src_keep {E : At} {w w' : World} (h : Src E w) (hk : Keeps E.pb E.pb w w') (hF : Far E) : Src E w' :=
 ⟨hk.cell h.x0 hF.xp hF.xp, ⟨h.body.keep hk hF.bp hF.bp, tabs_keep h.tx.tabs hk hF.fp hF.fp hF.ap hF.ap, hk.cell h.s0 hF.sp hF.sp, h.cap, h.size⟩, h.ok⟩
theorem four_keep {p q n : Nat} {w w1 : World} {t : TypeId} {x0 x1 x2 x3 : Value} (hn : w.heap.size = n) (hb : Keeps p q (w.alloc (.cells #[x0, x1, x2, x3] t)) w1) (hp : p < n) (hq : q < n) :
  w1.cell? ⟨n, 0, none⟩ = some x0 ∧ w1.cell? ⟨n, 1, none⟩ = some x1 ∧ w1.cell? ⟨n, 2, none⟩ = some x2 ∧ w1.cell? ⟨n, 3, none⟩ = some x3 ∧ (w1.frozen? ⟨n, 0, none⟩ = false ∧ w1.frozen? ⟨n, 1, none⟩ = false ∧ w1.frozen? ⟨n, 2, none⟩ = false ∧ w1.frozen? ⟨n, 3, none⟩ = false) ∧ n < w1.heap.size := by
 subst hn
 have h := Blk.keep (Blk.new w t #[x0, x1, x2, x3]) hb (by omega) (by omega)
 exact ⟨(h.cell 0).trans rfl, (h.cell 1).trans rfl, (h.cell 2).trans rfl, (h.cell 3).trans rfl, ⟨h.frozen 0, h.frozen 1, h.frozen 2, h.frozen 3⟩, h.lt⟩
structure AdvR (E : At) (w : World) (t t' : Tok) (n : Nat) (wx : World) : Prop where
 tok : Blk wx n 59 #[.int .i64 t'.kind, .int .i64 t'.start, .int .i64 t'.stop, .string t'.value]
 keep : Keeps E.pb E.qb w wx
 pblk : PBlk E wx t.stop t
 qblk : Blk wx E.qb 3 #[.int .i64 t'.stop]
 new : w.heap.size ≤ n
section
variable {E : At} {w w2 : World} {t t' : Tok} {pe v : Int}
theorem advA (hF : Far E) (hB : PBlk E w pe t) (hQ : Blk w E.qb 3 #[.int .i64 v]) (hk : Keeps E.qb E.qb (w.setCell ⟨E.pb, 4, none⟩ (.int .i64 t.stop)) w2) (hv : Blk w2 E.qb 3 #[.int .i64 t'.stop]) :
  AdvR E w t t' w2.heap.size (w2.alloc (.cells #[.int .i64 t'.kind, .int .i64 t'.start, .int .i64 t'.stop, .string t'.value] 59)) := by
 have hB1 : PBlk E (w.setCell ⟨E.pb, 4, none⟩ (.int .i64 t.stop)) t.stop t := Blk.set_ hB 4 (.int .i64 t.stop)
 have hk1 : Keeps E.pb E.qb w w2 := ((Keeps.refl E.pb E.qb w).setP 4 (.int .i64 t.stop)).trans (keeps_widen hk)
 exact ⟨Blk.new _ _ _, hk1.alloc _, Blk.alloc (Blk.keep hB1 hk hF.pq hF.pq) _, Blk.alloc hv _, hk1.size⟩
theorem advB (hF : Far E) (hB : PBlk E w pe t) (hQ : Blk w E.qb 3 #[.int .i64 v]) (hk : Keeps E.qb E.qb ((w.setCell ⟨E.pb, 4, none⟩ (.int .i64 t.stop)).alloc (.cells #[.int .i64 0, .int .i64 0, .int .i64 0, .string ⟨#[]⟩] 59)) w2) (hv : Blk w2 E.qb 3 #[.int .i64 t'.stop]) :
  AdvR E w t t' w.heap.size ((((w2.setCell ⟨w.heap.size, 0, none⟩ (.int .i64 t'.kind)).setCell ⟨w.heap.size, 1, none⟩ (.int .i64 t'.start)).setCell ⟨w.heap.size, 2, none⟩ (.int .i64 t'.stop)).setCell ⟨w.heap.size, 3, none⟩ (.string t'.value)) := by
 have hB1 : PBlk E (w.setCell ⟨E.pb, 4, none⟩ (.int .i64 t.stop)) t.stop t := Blk.set_ hB 4 (.int .i64 t.stop)
 have hsz : (w.setCell ⟨E.pb, 4, none⟩ (.int .i64 t.stop)).heap.size = w.heap.size := by simp [World.setCell]
 have hk0 : Keeps E.qb E.qb (w.setCell ⟨E.pb, 4, none⟩ (.int .i64 t.stop)) w2 := ((Keeps.refl E.qb E.qb _).alloc _).trans hk
 have hk1 : Keeps E.pb E.qb w w2 := ((Keeps.refl E.pb E.qb w).setP 4 (.int .i64 t.stop)).trans (keeps_widen hk0)
 have hpl := hB.lt
 have hql := hQ.lt
 have hT : Blk w2 w.heap.size 59 #[.int .i64 0, .int .i64 0, .int .i64 0, .string ⟨#[]⟩] := by
  have h := Blk.keep (Blk.new (w.setCell ⟨E.pb, 4, none⟩ (.int .i64 t.stop)) 59 #[.int .i64 0, .int .i64 0, .int .i64 0, .string ⟨#[]⟩]) hk (by omega) (by omega)
  rw [hsz] at h
  exact h
 have hB2 := Blk.keep hB1 hk0 hF.pq hF.pq
 have np : E.pb ≠ w.heap.size := by omega
 have nq : E.qb ≠ w.heap.size := by omega
 refine ⟨(((hT.set_ 0 _).set_ 1 _).set_ 2 _).set_ 3 _, (((hk1.setNew (x := ⟨w.heap.size, 0, none⟩) (Nat.le_refl _) _).setNew (x := ⟨w.heap.size, 1, none⟩) (Nat.le_refl _) _).setNew (x := ⟨w.heap.size, 2, none⟩) (Nat.le_refl _) _).setNew (x := ⟨w.heap.size, 3, none⟩) (Nat.le_refl _) _, ?_, ?_, Nat.le_refl _⟩
 ·exact (((Blk.far hB2 (p := ⟨w.heap.size, 0, none⟩) np _).far (p := ⟨w.heap.size, 1, none⟩) np _).far (p := ⟨w.heap.size, 2, none⟩) np _).far (p := ⟨w.heap.size, 3, none⟩) np _
 ·exact (((Blk.far hv (p := ⟨w.heap.size, 0, none⟩) nq _).far (p := ⟨w.heap.size, 1, none⟩) nq _).far (p := ⟨w.heap.size, 2, none⟩) nq _).far (p := ⟨w.heap.size, 3, none⟩) nq _
theorem undrew {p q : Nat} {w w' : World} (h : Keeps p q w.drew w') : Keeps p q w w' := ⟨h.os, h.tape, h.output, h.size, h.block, h.shape⟩
theorem adv_end {n : Nat} {wx : World} (h : AdvR E w t t' n wx) (hS : Src E w) (hF : Far E) (hp : (t'.kind = 1 ∧ t'.stop = E.s.size) ∨ (t'.kind ≠ 1 ∧ t.stop < t'.stop ∧ t'.stop ≤ E.s.size)) (hle : t.stop ≤ E.s.size) (htk : E.ask t'.stop) :
  Keeps E.pb E.qb w ((((wx.setCell ⟨E.pb, 5, none⟩ (.int .i64 t'.kind)).setCell ⟨E.pb, 6, none⟩ (.int .i64 t'.start)).setCell ⟨E.pb, 7, none⟩ (.int .i64 t'.stop)).setCell ⟨E.pb, 8, none⟩ (.string t'.value)) ∧
  PS E ((((wx.setCell ⟨E.pb, 5, none⟩ (.int .i64 t'.kind)).setCell ⟨E.pb, 6, none⟩ (.int .i64 t'.start)).setCell ⟨E.pb, 7, none⟩ (.int .i64 t'.stop)).setCell ⟨E.pb, 8, none⟩ (.string t'.value)) t' := by
 have hk := (((h.keep.setP 5 (.int .i64 t'.kind)).setP 6 (.int .i64 t'.start)).setP 7 (.int .i64 t'.stop)).setP 8 (.string t'.value)
 have hv := h.qblk
 have np : E.qb ≠ E.pb := Ne.symm hF.pq
 refine ⟨hk, ⟨t.stop, (((Blk.set_ h.pblk 5 (.int .i64 t'.kind)).set_ 6 (.int .i64 t'.start)).set_ 7 (.int .i64 t'.stop)).set_ 8 (.string t'.value)⟩, ?_, hS.keep hF hk, hF, by omega, htk⟩
 exact (((Blk.far hv (p := ⟨E.pb, 5, none⟩) np _).far (p := ⟨E.pb, 6, none⟩) np _).far (p := ⟨E.pb, 7, none⟩) np _).far (p := ⟨E.pb, 8, none⟩) np _
end
theorem advance_yes (E : At) (w : World) (t t' : Tok) (hP : PS E w t) (ht : E.lx t.stop = some t') :
  Calls Tryz.prog 75 #[.pointer (some ⟨E.pb, 0, none⟩)] w fun e w' =>
   e = .returned .nilIface ∧ Keeps E.pb E.qb w w' ∧ PS E w' t' := by
 obtain ⟨⟨pe, hB⟩, hQ, hS, hF, hle, hask⟩ := hP
 obtain ⟨c0, c1, c2, c3, c4, c5, c6, c7, c8⟩ := hB.cells
 have z4 := Blk.frozen hB 4
 have hpl := hB.lt
 have HL := aK (fun W (hk : Keeps E.pb E.pb w W) => lex_some E W t.stop t.stop t' (src_keep hS hk hF) hask (Blk.keep hQ hk (Ne.symm hF.pq) (Ne.symm hF.pq)) (by omega) hF ht)
 have HE := aK (fun n wx (h : AdvR E w t t' n wx) => adv_end h hS hF (hS.ok.prog _ _ hle ht) hle (hS.ok.next _ _ hask ht))
 have HA := aK (fun w2 hk hv => advA (t' := t') (w2 := w2) hF hB hQ hk hv)
 have HB := aK (fun w2 hk hv => advB (t' := t') (w2 := w2) hF hB hQ hk hv)
 have hql := hQ.lt
 have hK := aK ((Keeps.refl E.pb E.pb w).setP 4 (.int .i64 t.stop))
 clear hB hQ hS hF hle ht hask c1 c2 c3 c5 c6 c8
 go_enter Tryz.func75, Tryz.ntmps75
 go_upto_region 2 with fail
 go_cut [3, 4] (fun a3 a4 wx => a4 = .nilIface ∧ ∃ n, a3 = .pointer (some ⟨n, 0, none⟩) ∧ Aside0 (AdvR E w t t' n wx))
 case first =>
  go_region_with (go_at_call 73; first | (refine (HL.out (World.drew (World.alloc _ _)) ((hK.out.alloc _).drew)).mono ?_; rintro e w2 ⟨rfl, hk, hv⟩; obtain ⟨r0, r1, r2, r3, ⟨hz0, hz1, hz2, hz3⟩, hlt⟩ := four_keep (n := w.heap.size) (w := w.setCell ⟨E.pb, 4, none⟩ (.int .i64 t.stop)) (by simp) ⟨hk.os, hk.tape, hk.output, hk.size, hk.block, hk.shape⟩ hql hql) | (refine (HL.out (World.drew _) hK.out.drew).mono ?_; rintro e w2 ⟨rfl, hk, hv⟩))
  all_goals
   have hk2 := aK (undrew hk)
   have hv2 := aK hv
   clear hk hv
   go_wp2_with fail
   go_meet
   case rel => exact ⟨rfl, _, rfl, ⟨by first | exact HA.out _ hk2.out hv2.out | exact HB.out _ hk2.out hv2.out⟩⟩
 case rest =>
  obtain ⟨rfl, n, rfl, HR⟩ := hcut
  have r0 := (HR.out.tok.cell 0).trans rfl
  have r1 := (HR.out.tok.cell 1).trans rfl
  have r2 := (HR.out.tok.cell 2).trans rfl
  have r3 := (HR.out.tok.cell 3).trans rfl
  have z5 := Blk.frozen HR.out.pblk 5
  have z6 := Blk.frozen HR.out.pblk 6
  have z7 := Blk.frozen HR.out.pblk 7
  have z8 := Blk.frozen HR.out.pblk 8
  obtain ⟨e0, e1, e2, e3, e4, e5, e6, e7, e8⟩ := HR.out.pblk.cells
  go_wp2_with fail
  go_ret
  exact ⟨rfl, HE.out _ _ HR.out⟩
theorem advance_no (E : At) (w : World) (t : Tok) (hP : PS E w t) (ht : E.lx t.stop = none) :
  Calls Tryz.prog 75 #[.pointer (some ⟨E.pb, 0, none⟩)] w fun e w' =>
   (∃ g, e = .returned (errV g)) ∧ Keeps E.pb E.qb w w' := by
 obtain ⟨⟨pe, hB⟩, hQ, hS, hF, hle, hask⟩ := hP
 obtain ⟨c0, c1, c2, c3, c4, c5, c6, c7, c8⟩ := hB.cells
 have z4 := Blk.frozen hB 4
 have hpl := hB.lt
 have HL := aK (fun W (hk : Keeps E.pb E.pb w W) => lex_none E W t.stop t.stop (src_keep hS hk hF) hask (Blk.keep hQ hk (Ne.symm hF.pq) (Ne.symm hF.pq)) (by omega) hF ht)
 have hql := hQ.lt
 have hK := aK ((Keeps.refl E.pb E.pb w).setP 4 (.int .i64 t.stop))
 have hK2 := aK ((Keeps.refl E.pb E.qb w).setP 4 (.int .i64 t.stop))
 clear hB hQ hS hF hle ht hask c1 c2 c3 c5 c6 c8
 go_enter Tryz.func75, Tryz.ntmps75
 go_upto_region 2 with fail
 go_cut [3, 4] (fun a3 a4 wx => (∃ n, a3 = .pointer (some ⟨n, 0, none⟩)) ∧ (∃ g, a4 = errV g) ∧ Aside0 (Keeps E.pb E.qb w wx))
 case first =>
  go_region_with (go_at_call 73; first | (refine (HL.out (World.drew (World.alloc _ _)) ((hK.out.alloc _).drew)).mono ?_; rintro e w2 ⟨⟨g, rfl⟩, hk⟩; obtain ⟨r0, r1, r2, r3, ⟨hz0, hz1, hz2, hz3⟩, hlt⟩ := four_keep (n := w.heap.size) (w := w.setCell ⟨E.pb, 4, none⟩ (.int .i64 t.stop)) (by simp) ⟨hk.os, hk.tape, hk.output, hk.size, hk.block, hk.shape⟩ hql hql) | (refine (HL.out (World.drew _) hK.out.drew).mono ?_; rintro e w2 ⟨⟨g, rfl⟩, hk⟩))
  all_goals
   have hk2 := aK (keeps_widen (p := E.pb) (undrew hk))
   clear hk
   go_wp2_with fail
   go_meet
   case rel => exact ⟨⟨_, rfl⟩, ⟨g, rfl⟩, ⟨by first | exact (hK2.out.trans hk2.out).alloc _ | exact ((((hK2.out.trans (((Keeps.refl E.pb E.qb _).alloc _).trans hk2.out)).setNew (x := ⟨w.heap.size, 0, none⟩) (Nat.le_refl _) _).setNew (x := ⟨w.heap.size, 1, none⟩) (Nat.le_refl _) _).setNew (x := ⟨w.heap.size, 2, none⟩) (Nat.le_refl _) _).setNew (x := ⟨w.heap.size, 3, none⟩) (Nat.le_refl _) _⟩⟩
 case rest =>
  obtain ⟨⟨n, rfl⟩, ⟨g, rfl⟩, HR⟩ := hcut
  go_wp2_with fail
  go_ret
  exact ⟨⟨g, rfl⟩, HR.out⟩
section
variable {E : At} {w0 w w' : World} {t t0 : Tok}
theorem ps_end (h0 : PS E w0 t0) (h : PS E w t) (hb : Below w0.heap.size w w') : PS E w' t := by
 obtain ⟨⟨pe, h1⟩, h2, h3, h4, h5, h6⟩ := h
 obtain ⟨⟨pe0, g1⟩, g2, g3, _, _, _⟩ := h0
 have tab : ∀ {b c : Nat} {x y : Value}, w0.cell? ⟨b, c, none⟩ = some x → w.cell? ⟨b, c, none⟩ = some y → w'.cell? ⟨b, c, none⟩ = some y := fun hx hy => (hb.cell (World.block_lt_of_cell? w0 _ hx)).trans hy
 refine ⟨⟨pe, Blk.below h1 hb g1.lt⟩, Blk.below h2 hb g2.lt, ⟨?_, ⟨fun j hj => ?_, ⟨fun c hc => tab (g3.tx.tabs.1 c hc) (h3.tx.tabs.1 c hc), fun i hi => ⟨tab (g3.tx.tabs.2 i hi).1 (h3.tx.tabs.2 i hi).1, tab (g3.tx.tabs.2 i hi).2 (h3.tx.tabs.2 i hi).2⟩⟩, ?_, h3.cap, h3.size⟩, h3.ok⟩, h4, h5, h6⟩
 ·exact tab g3.x0 h3.x0
 ·exact tab (g3.body j hj) (h3.body j hj)
 ·exact tab g3.s0 h3.s0
theorem keeps_new (h : Keeps E.pb E.qb w0 w) (hb : Below w0.heap.size w w') : Keeps E.pb E.qb w0 w' :=
 ⟨hb.os.trans h.os, hb.tape.trans h.tape, hb.output.trans h.output, Nat.le_trans h.size hb.size, fun k hk h1 h2 => (hb.block k hk).trans (h.block k hk h1 h2), fun k cs T fr hk => by
  obtain ⟨c1, h1, e1⟩ := h.shape k cs T fr hk
  exact ⟨c1, (hb.block k (shape_lt hk)).trans h1, e1⟩⟩
theorem ps_err (h : PS E w t) (msg : ByteArray) (pos : Int) :
  Calls Tryz.prog 76 #[.pointer (some ⟨E.sb, 0, none⟩), .int .i64 pos, .string msg] w fun e w' => SomeErr w e w' :=
 syntaxError_any E.sb E.bb E.cap pos E.s msg w h.src.body h.src.s0 (by have := h.src.size; omega) h.src.cap
theorem ps_lt (h : PS E w t) : E.pb < w.heap.size ∧ E.qb < w.heap.size := by
 obtain ⟨⟨pe, h1⟩, h2, _⟩ := h
 exact ⟨h1.lt, h2.lt⟩
theorem ps_cells (h : PS E w t) : w.cell? ⟨E.pb, 1, none⟩ = some (.pointer (some ⟨E.sb, 0, none⟩)) ∧ w.cell? ⟨E.pb, 2, none⟩ = some (.bool false) ∧ w.cell? ⟨E.pb, 3, none⟩ = some (.bool false) ∧ (∃ pe : Int, w.cell? ⟨E.pb, 4, none⟩ = some (.int .i64 pe)) ∧
  w.cell? ⟨E.pb, 5, none⟩ = some (.int .i64 t.kind) ∧ w.cell? ⟨E.pb, 6, none⟩ = some (.int .i64 t.start) ∧ w.cell? ⟨E.pb, 7, none⟩ = some (.int .i64 t.stop) ∧ w.cell? ⟨E.pb, 8, none⟩ = some (.string t.value) := by
 obtain ⟨⟨pe, h1⟩, _⟩ := h
 obtain ⟨c0, c1, c2, c3, c4, c5, c6, c7, c8⟩ := h1.cells
 exact ⟨c1, c2, c3, ⟨pe, c4⟩, c5, c6, c7, c8⟩
end
theorem skip_no (E : At) (w : World) (t : Tok) (k : Int) (h : PS E w t) (hk : t.kind ≠ k) :
  Calls Tryz.prog 95 #[.pointer (some ⟨E.pb, 0, none⟩), .int .i64 k] w fun e w' => e = .returned (.tuple #[.bool false, .nilIface]) ∧ w = w' := by
 obtain ⟨c1, c2, c3, c4, c5, c6, c7, c8⟩ := ps_cells h
 have hkb : (t.kind == k) = false := beq_eq_false_iff_ne.2 hk
 clear h c1 c2 c3 c4 c6 c7 c8 hk
 go_enter Tryz.func95, Tryz.ntmps95
 go_wp2_with fail
 go_ret2
 exact ⟨rfl, rfl⟩
theorem skip_yes (E : At) (w : World) (t t' : Tok) (h : PS E w t) (ht : E.lx t.stop = some t') :
  Calls Tryz.prog 95 #[.pointer (some ⟨E.pb, 0, none⟩), .int .i64 t.kind] w fun e w' => e = .returned (.tuple #[.bool true, .nilIface]) ∧ Keeps E.pb E.qb w w' ∧ PS E w' t' := by
 obtain ⟨c1, c2, c3, c4, c5, c6, c7, c8⟩ := ps_cells h
 have HA := aK (advance_yes E w t t' h ht)
 clear h c1 c2 c3 c4 c6 c7 c8 ht
 go_enter Tryz.func95, Tryz.ntmps95
 go_wp2_with fail
 refine HA.out.mono ?_
 rintro e w2 ⟨rfl, hk, hp⟩
 go_wp2_with fail
 go_ret2
 exact ⟨rfl, hk, hp⟩
theorem skip_err (E : At) (w : World) (t : Tok) (h : PS E w t) (ht : E.lx t.stop = none) :
  Calls Tryz.prog 95 #[.pointer (some ⟨E.pb, 0, none⟩), .int .i64 t.kind] w fun e w' => (∃ g, e = .returned (.tuple #[.bool true, errV g])) ∧ Keeps E.pb E.qb w w' := by
 obtain ⟨c1, c2, c3, c4, c5, c6, c7, c8⟩ := ps_cells h
 have HA := aK (advance_no E w t h ht)
 clear h c1 c2 c3 c4 c6 c7 c8 ht
 go_enter Tryz.func95, Tryz.ntmps95
 go_wp2_with fail
 refine HA.out.mono ?_
 rintro e w2 ⟨⟨g, rfl⟩, hk⟩
 go_wp2_with fail
 go_ret2
 exact ⟨⟨g, rfl⟩, hk⟩
theorem two_tok {E : At} {w w2 : World} {t : Tok} (hl : E.pb < w.heap.size ∧ E.qb < w.heap.size) (hk : Keeps E.pb E.qb ((w.alloc (.cells #[.int .i64 0, .int .i64 0, .int .i64 0, .string ⟨#[]⟩] 59)).alloc (.cells #[.int .i64 t.kind, .int .i64 t.start, .int .i64 t.stop, .string t.value] 59)).drew w2) :
  (w2.cell? ⟨w.heap.size + 1, 0, none⟩ = some (.int .i64 t.kind) ∧ w2.cell? ⟨w.heap.size + 1, 1, none⟩ = some (.int .i64 t.start) ∧ w2.cell? ⟨w.heap.size + 1, 2, none⟩ = some (.int .i64 t.stop) ∧ w2.cell? ⟨w.heap.size + 1, 3, none⟩ = some (.string t.value)) ∧
  (w2.cell? ⟨w.heap.size, 0, none⟩ = some (.int .i64 0) ∧ w2.cell? ⟨w.heap.size, 1, none⟩ = some (.int .i64 0) ∧ w2.cell? ⟨w.heap.size, 2, none⟩ = some (.int .i64 0) ∧ w2.cell? ⟨w.heap.size, 3, none⟩ = some (.string ⟨#[]⟩)) ∧
  (w2.frozen? ⟨w.heap.size, 0, none⟩ = false ∧ w2.frozen? ⟨w.heap.size, 1, none⟩ = false ∧ w2.frozen? ⟨w.heap.size, 2, none⟩ = false ∧ w2.frozen? ⟨w.heap.size, 3, none⟩ = false) ∧ Keeps E.pb E.qb w w2 := by
 have h1 : Blk (w.alloc (.cells #[.int .i64 0, .int .i64 0, .int .i64 0, .string ⟨#[]⟩] 59)) w.heap.size 59 #[.int .i64 0, .int .i64 0, .int .i64 0, .string ⟨#[]⟩] := Blk.new _ _ _
 have h2 : Blk ((w.alloc (.cells #[.int .i64 0, .int .i64 0, .int .i64 0, .string ⟨#[]⟩] 59)).alloc (.cells #[.int .i64 t.kind, .int .i64 t.start, .int .i64 t.stop, .string t.value] 59)) (w.heap.size + 1) 59 #[.int .i64 t.kind, .int .i64 t.start, .int .i64 t.stop, .string t.value] := by
  have h := Blk.new (w.alloc (.cells #[.int .i64 0, .int .i64 0, .int .i64 0, .string ⟨#[]⟩] 59)) 59 #[.int .i64 t.kind, .int .i64 t.start, .int .i64 t.stop, .string t.value]
  rw [World.size_alloc] at h
  exact h
 have k1 := Blk.keep ((h1.alloc (.cells #[.int .i64 t.kind, .int .i64 t.start, .int .i64 t.stop, .string t.value] 59)).drew) hk (by omega) (by omega)
 have k2 := Blk.keep h2.drew hk (by omega) (by omega)
 exact ⟨⟨(k2.cell 0).trans rfl, (k2.cell 1).trans rfl, (k2.cell 2).trans rfl, (k2.cell 3).trans rfl⟩, ⟨(k1.cell 0).trans rfl, (k1.cell 1).trans rfl, (k1.cell 2).trans rfl, (k1.cell 3).trans rfl⟩, ⟨k1.frozen 0, k1.frozen 1, k1.frozen 2, k1.frozen 3⟩, ((((Keeps.refl _ _ w).alloc _).alloc _).drew).trans hk⟩
theorem below_res {w w2 : World} {x0 x1 x2 x3 : Value} : Below w.heap.size w2 ((((w2.setCell ⟨w.heap.size, 0, none⟩ x0).setCell ⟨w.heap.size, 1, none⟩ x1).setCell ⟨w.heap.size, 2, none⟩ x2).setCell ⟨w.heap.size, 3, none⟩ x3) :=
 ((((Below.refl w.heap.size w2).setCell (p := ⟨w.heap.size, 0, none⟩) (Nat.le_refl _) _).setCell (p := ⟨w.heap.size, 1, none⟩) (Nat.le_refl _) _).setCell (p := ⟨w.heap.size, 2, none⟩) (Nat.le_refl _) _).setCell (p := ⟨w.heap.size, 3, none⟩) (Nat.le_refl _) _
theorem ps_two {E : At} {w : World} {t : Tok} (h : PS E w t) (o o' : Obj) : PS E ((w.alloc o).alloc o').drew t := h.below (below_drew (below_alloc (below_alloc (Below.refl _ _) _) _))
theorem expect_yes (E : At) (w : World) (t : Tok) (t' : Tok) (k : Int) (hP : PS E w t) (hkk : t.kind = k) (ht : E.lx t.stop = some t') :
  Calls Tryz.prog 58 #[.pointer (some ⟨E.pb, 0, none⟩), .int .i64 k] w fun e w' => e = .returned (.tuple #[tokV t, .nilIface]) ∧ Keeps E.pb E.qb w w' ∧ PS E w' t' := by
 obtain ⟨c1, c2, c3, c4, c5, c6, c7, c8⟩ := ps_cells hP
 have hl := ps_lt hP
 have HPS := aK hP
 have HA := aK (fun W (h : PS E W t) => advance_yes E W t t' h ht)
 clear ht
 subst hkk
 clear c2 c3 c4
 go_enter Tryz.func58, Tryz.ntmps58
 go_upto_region 3 with fail
 go_region_with (go_at_call 75; refine (HA.out (World.drew _) (ps_two HPS.out _ _)).mono ?_; rintro e w2 ⟨rfl, hk, hp⟩; obtain ⟨⟨a0, a1, a2, a3⟩, ⟨b0, b1, b2, b3⟩, ⟨z0, z1, z2, z3⟩, hkw⟩ := two_tok hl hk)
 all_goals
  have hp2 := aK hp
  have hk2 := aK hkw
  clear hp hk hkw
  go_wp2_with fail
  refine bodyPost_ret (v := .tuple #[tokV t, .nilIface]) (by simp [results, Tryz.results58, go_sem, tokV, b0, b1, b2, b3]) rfl ⟨rfl, keeps_new hk2.out below_res, ps_end HPS.out hp2.out below_res⟩
theorem expect_adv (E : At) (w : World) (t : Tok) (k : Int) (hP : PS E w t) (hkk : t.kind = k) (ht : E.lx t.stop = none) :
  Calls Tryz.prog 58 #[.pointer (some ⟨E.pb, 0, none⟩), .int .i64 k] w fun e w' => (∃ g, e = .returned (.tuple #[tokV t, errV g])) ∧ Keeps E.pb E.qb w w' := by
 obtain ⟨c1, c2, c3, c4, c5, c6, c7, c8⟩ := ps_cells hP
 have hl := ps_lt hP
 have HPS := aK hP
 have HA := aK (fun W (h : PS E W t) => advance_no E W t h ht)
 clear ht
 subst hkk
 clear c2 c3 c4
 go_enter Tryz.func58, Tryz.ntmps58
 go_upto_region 3 with fail
 go_region_with (go_at_call 75; refine (HA.out (World.drew _) (ps_two HPS.out _ _)).mono ?_; rintro e w2 ⟨⟨g, rfl⟩, hk⟩; obtain ⟨⟨a0, a1, a2, a3⟩, ⟨b0, b1, b2, b3⟩, ⟨z0, z1, z2, z3⟩, hkw⟩ := two_tok hl hk)
 all_goals
  have hk2 := aK hkw
  clear hk hkw
  go_wp2_with fail
  refine bodyPost_ret (v := .tuple #[tokV t, errV g]) (by simp [results, Tryz.results58, go_sem, tokV, errV, b0, b1, b2, b3]) rfl ⟨⟨g, rfl⟩, keeps_new hk2.out below_res⟩
theorem expect_no (E : At) (w : World) (t : Tok) (k : Int) (hP : PS E w t) (hne : t.kind ≠ k) :
  Calls Tryz.prog 58 #[.pointer (some ⟨E.pb, 0, none⟩), .int .i64 k] w fun e w' => (∃ g, e = .returned (.tuple #[tokV t, errV g])) ∧ Keeps E.pb E.qb w w' := by
 obtain ⟨c1, c2, c3, c4, c5, c6, c7, c8⟩ := ps_cells hP
 have hl := ps_lt hP
 have HPS := aK hP
 have hkb : (t.kind == k) = false := beq_eq_false_iff_ne.2 hne
 have HA := aK (fun W (h : PS E W t) msg pos => ps_err h msg pos)
 clear c2 c3 c4
 go_enter Tryz.func58, Tryz.ntmps58
 go_upto_region 5 with fail
 go_region_with (go_at_call 76; refine (HA.out (World.drew _) (ps_two HPS.out _ _) _ _).mono ?_; rintro e w2 ⟨g, rfl, hb⟩; have hk : Keeps E.pb E.qb _ w2 := Keeps.of_below _ _ hb; obtain ⟨⟨a0, a1, a2, a3⟩, ⟨b0, b1, b2, b3⟩, ⟨z0, z1, z2, z3⟩, hkw⟩ := two_tok hl hk)
 all_goals
  have hk2 := aK hkw
  clear hk hkw hb
  go_wp2_with fail
  refine bodyPost_ret (v := .tuple #[tokV t, errV g]) (by simp [results, Tryz.results58, go_sem, tokV, errV, b0, b1, b2, b3]) rfl ⟨⟨g, rfl⟩, keeps_new hk2.out below_res⟩
theorem peek_any (E : At) (w : World) (t : Tok) (k : Int) (h : PS E w t) :
  Calls Tryz.prog 40 #[.pointer (some ⟨E.pb, 0, none⟩), .int .i64 k] w fun e w' => e = .returned (.bool (t.kind == k)) ∧ w = w' := by
 obtain ⟨c1, c2, c3, c4, c5, c6, c7, c8⟩ := ps_cells h
 clear h c1 c2 c3 c4 c6 c7 c8
 go_enter Tryz.func40, Tryz.ntmps40
 go_wp2_with fail
 go_ret
 exact ⟨rfl, rfl⟩
end Go.Proofs.YtjoagdldbmlenaaGreatDoor.Par
