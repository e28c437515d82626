import Derived.Test.YtjoagdldbmlenaaGreatDoorVD5
import Derived.Lib.SlBytesRow
import Derived.Lib.ConvBytes
import Derived.Test.YtjoagdldbmlenaaGreatDoorVD6
set_option maxRecDepth 100000
set_option maxHeartbeats 8000000
set_option linter.unusedVariables false
set_option linter.unusedSimpArgs false
namespace Go.Proofs.YtjoagdldbmlenaaGreatDoor.Par
open Go.RowKit Go.Proofs.YtjoagdldbmlenaaGreatDoorW.PrintWords Keep Go.Proofs.YtjoagdldbmlenaaGreatDoor.Mod Sim Four Step Env Err Lx Ast New Tree Fuel
theorem lex_begin (sb : Nat) (w : World) : Calls Tryz.prog 57 #[.pointer (some ⟨sb, 0, none⟩)] w fun e w' => e = .returned (.func (.func 73) #[] #[.pointer (some ⟨w.heap.size + 1, 0, none⟩), .pointer (some ⟨w.heap.size, 0, none⟩)]) ∧
  w' = (w.alloc (.cells #[.pointer (some ⟨sb, 0, none⟩)] 62)).alloc (.cells #[.int .i64 0] 3) := by
 go_enter Tryz.func57, Tryz.ntmps57
 go_wp2_with fail
 go_ret
 exact ⟨rfl, rfl⟩
structure SrcAt (sb bb cap : Nat) (s : ByteArray) (lx : Nat → Option Tok) (ask : Nat → Prop) (w : World) : Prop where
 tx : Tx sb bb cap s w
 ok : ∀ pb qb xb, OKLex ⟨pb, qb, xb, sb, bb, cap, s, lx, ask⟩
 bl : bb < w.heap.size
 a0 : ask 0
section
variable {sb bb cap : Nat} {s : ByteArray} {lx : Nat → Option Tok} {ask : Nat → Prop} {w w' : World}
theorem SrcAt.lt (h : SrcAt sb bb cap s lx ask w) : sb < w.heap.size ∧ bb < w.heap.size ∧ 0 < w.heap.size ∧ 1 < w.heap.size :=
 ⟨World.block_lt_of_cell? w _ h.tx.s0, h.bl, World.block_lt_of_cell? w _ (h.tx.tabs.1 0 (by decide)), World.block_lt_of_cell? w _ (h.tx.tabs.2 0 (by decide)).1⟩
theorem SrcAt.below (h : SrcAt sb bb cap s lx ask w) (hb : Below w.heap.size w w') : SrcAt sb bb cap s lx ask w' :=
 ⟨h.tx.below hb, h.ok, Nat.lt_of_lt_of_le h.bl hb.size, h.a0⟩
end
def Begun (s : ByteArray) (lx : Nat → Option Tok) (ask : Nat → Prop) (w : World) (e : Ending) (w' : World) : Prop :=
 (∃ E t, E.s = s ∧ E.lx = lx ∧ E.ask = ask ∧ lx 0 = some t ∧ e = .returned (.tuple #[.pointer (some ⟨E.pb, 0, none⟩), .nilIface]) ∧ PS E w' t ∧ E.pb < w'.heap.size ∧ E.qb < w'.heap.size ∧ w.heap.size ≤ E.pb ∧ w.heap.size ≤ E.qb ∧ Below w.heap.size w w') ∨
 (lx 0 = none ∧ (∃ p g, e = .returned (.tuple #[p, errV g])) ∧ Below w.heap.size w w')
theorem begun_yes {sb bb cap : Nat} {s : ByteArray} {lx : Nat → Option Tok} {ask : Nat → Prop} {w w3 : World} {t : Tok} (hS : SrcAt sb bb cap s lx ask w) (ht : lx 0 = some t) (hl3 : w.heap.size + 3 ≤ w3.heap.size) (hb3 : Below w.heap.size w w3) (hx : w3.cell? ⟨w.heap.size + 1, 0, none⟩ = some (.pointer (some ⟨sb, 0, none⟩))) (hq : Blk w3 (w.heap.size + 2) 3 #[.int .i64 t.stop]) :
  Begun s lx ask w (.returned (.tuple #[.pointer (some ⟨w3.heap.size + 1, 0, none⟩), .nilIface])) ((w3.alloc (.cells #[.int .i64 t.kind, .int .i64 t.start, .int .i64 t.stop, .string t.value] 59)).alloc (.cells #[.func (.func 73) #[] #[.pointer (some ⟨w.heap.size + 1 + 1, 0, none⟩), .pointer (some ⟨w.heap.size + 1, 0, none⟩)], .pointer (some ⟨sb, 0, none⟩), .bool false, .bool false, .int .i64 0, .int .i64 t.kind, .int .i64 t.start, .int .i64 t.stop, .string t.value] 66)) := by
 have hlt := hS.lt
 have hkp : Below w3.heap.size w3 ((w3.alloc (.cells #[.int .i64 t.kind, .int .i64 t.start, .int .i64 t.stop, .string t.value] 59)).alloc (.cells #[.func (.func 73) #[] #[.pointer (some ⟨w.heap.size + 1 + 1, 0, none⟩), .pointer (some ⟨w.heap.size + 1, 0, none⟩)], .pointer (some ⟨sb, 0, none⟩), .bool false, .bool false, .int .i64 0, .int .i64 t.kind, .int .i64 t.start, .int .i64 t.stop, .string t.value] 66)) := below_alloc (below_alloc (Below.refl _ _) _) _
 have hP := Blk.new (w3.alloc (.cells #[.int .i64 t.kind, .int .i64 t.start, .int .i64 t.stop, .string t.value] 59)) 66 #[.func (.func 73) #[] #[.pointer (some ⟨w.heap.size + 1 + 1, 0, none⟩), .pointer (some ⟨w.heap.size + 1, 0, none⟩)], .pointer (some ⟨sb, 0, none⟩), .bool false, .bool false, .int .i64 0, .int .i64 t.kind, .int .i64 t.start, .int .i64 t.stop, .string t.value]
 simp only [World.size_alloc] at hP
 have hkq := hb3.trans (hkp.mono hb3.size)
 have hkq' := hkq
 have hle : t.stop ≤ s.size ∧ ask t.stop := by
  have h1 := hS.ok 0 0 0
  refine ⟨?_, h1.next 0 t hS.a0 ht⟩
  rcases h1.prog 0 t (Nat.zero_le _) ht with ⟨_, h⟩ | ⟨_, _, h⟩
  ·exact Nat.le_of_eq h
  ·exact h
 refine .inl ⟨⟨w3.heap.size + 1, w.heap.size + 2, w.heap.size + 1, sb, bb, cap, s, lx, ask⟩, t, rfl, rfl, rfl, ht, rfl, ⟨⟨0, hP⟩, Blk.below hq hkp hq.lt, ⟨pw_cell_below hkp hx, (hS.below hkq').tx, hS.ok _ _ _⟩, ⟨?_, ?_, ?_, ?_, ?_, ?_, ?_, ?_, ?_, ?_, ?_⟩, hle.1, hle.2⟩, by simp, by simp; omega, by show w.heap.size ≤ w3.heap.size + 1; omega, by show w.heap.size ≤ w.heap.size + 2; omega, hkq⟩
 all_goals (simp only []; omega)
theorem begin_any (sb bb cap : Nat) (s : ByteArray) (lx : Nat → Option Tok) (ask : Nat → Prop) (w : World) (hS : SrcAt sb bb cap s lx ask w) :
  Calls Tryz.prog 38 #[.pointer (some ⟨sb, 0, none⟩), .agg #[.bool false, .bool false]] w (Begun s lx ask w) := by
 have hlt := hS.lt
 have HLX := aK (fun W (hb : Below w.heap.size w W) (hx : W.cell? ⟨w.heap.size + 1, 0, none⟩ = some (.pointer (some ⟨sb, 0, none⟩))) (hq : Blk W (w.heap.size + 2) 3 #[.int .i64 0]) =>
  lex_any ⟨w.heap.size + 3, w.heap.size + 2, w.heap.size + 1, sb, bb, cap, s, lx, ask⟩ W 0 0 ⟨hx, (hS.below hb).tx, hS.ok _ _ _⟩ hS.a0 hq (.inr rfl) (by constructor <;> (simp only []; omega)))
 have HS := aK hS
 clear hS
 go_enter Tryz.func38, Tryz.ntmps38
 go_wp2_with fail
 refine (lex_begin sb _).mono ?_
 rintro e w2 ⟨rfl, rfl⟩
 go_wp2_with fail
 have hB0 := Blk.new w 64 #[.bool false, .bool false]
 have hx0 := Blk.new (w.alloc (.cells #[.bool false, .bool false] 64)) 62 #[.pointer (some ⟨sb, 0, none⟩)]
 have hq0 := Blk.new ((w.alloc (.cells #[.bool false, .bool false] 64)).alloc (.cells #[.pointer (some ⟨sb, 0, none⟩)] 62)) 3 #[.int .i64 0]
 have hb0 : Below w.heap.size w (((w.alloc (.cells #[.bool false, .bool false] 64)).alloc (.cells #[.pointer (some ⟨sb, 0, none⟩)] 62)).alloc (.cells #[.int .i64 0] 3)) := below_alloc (below_alloc (below_alloc (Below.refl _ _) _) _) _
 replace hB0 := (hB0.alloc (.cells #[.pointer (some ⟨sb, 0, none⟩)] 62)).alloc (.cells #[.int .i64 0] 3)
 replace hx0 := hx0.alloc (.cells #[.int .i64 0] 3)
 have hsz0 : (((w.alloc (.cells #[.bool false, .bool false] 64)).alloc (.cells #[.pointer (some ⟨sb, 0, none⟩)] 62)).alloc (.cells #[.int .i64 0] 3)).heap.size = w.heap.size + 3 := by simp
 generalize (((w.alloc (.cells #[.bool false, .bool false] 64)).alloc (.cells #[.pointer (some ⟨sb, 0, none⟩)] 62)).alloc (.cells #[.int .i64 0] 3)) = W at *
 simp only [World.size_alloc] at hx0 hq0
 refine (HLX.out W hb0 ((hx0.cell 0).trans rfl) hq0).mono ?_
 rintro e w3 ⟨hk, h⟩
 have o0 : w3.cell? ⟨w.heap.size, 0, none⟩ = some (.bool false) := hk.cell ((hB0.cell 0).trans rfl) (by show w.heap.size ≠ w.heap.size + 2; omega) (by show w.heap.size ≠ w.heap.size + 2; omega)
 have o1 : w3.cell? ⟨w.heap.size, 1, none⟩ = some (.bool false) := hk.cell ((hB0.cell 1).trans rfl) (by show w.heap.size ≠ w.heap.size + 2; omega) (by show w.heap.size ≠ w.heap.size + 2; omega)
 have x3 : w3.cell? ⟨w.heap.size + 1, 0, none⟩ = some (.pointer (some ⟨sb, 0, none⟩)) := hk.cell ((hx0.cell 0).trans rfl) (by show w.heap.size + 1 ≠ w.heap.size + 2; omega) (by show w.heap.size + 1 ≠ w.heap.size + 2; omega)
 have hsz3 := hk.size
 have hb3 : Below w.heap.size w w3 := hb0.trans (hk.below (by omega) (by show w.heap.size ≤ w.heap.size + 2; omega) (by show w.heap.size ≤ w.heap.size + 2; omega))
 have hl3 : w.heap.size + 3 ≤ w3.heap.size := by omega
 have hl30 : w.heap.size < w3.heap.size := by omega
 have hne3 : ¬ w.heap.size = w3.heap.size := by omega
 have HB3 := aK hb3
 have HX3 := aK x3
 clear hk hB0 hx0 hq0 hb0 hb3 x3
 rcases h with ⟨t, ht, rfl, hv'⟩ | ⟨hn, g, rfl⟩
 ·have HT := aK ht
  have HV3 := aK hv'
  clear ht hv'
  go_wp2_with fail
  refine bodyPost_ret (v := .tuple #[.pointer (some ⟨w3.heap.size + 1, 0, none⟩), .nilIface]) (by simp [results, Tryz.results38, go_sem]) rfl (begun_yes HS.out HT.out hl3 HB3.out HX3.out HV3.out)
 ·have HT := aK hn
  clear hn
  go_wp2_with fail
  go_ret2
  exact .inr ⟨HT.out, ⟨_, g, rfl⟩, below_alloc (below_alloc HB3.out _) _⟩
theorem new_source (g n cap : Nat) (bb : Nat) (w : World) (h : Blk w g 92 #[.slice (some ⟨bb, 0, none⟩) n cap, .string ⟨#[]⟩]) :
  Calls Tryz.prog 39 #[.pointer (some ⟨g, 0, none⟩)] w fun e w' => e = .returned (.pointer (some ⟨g, 0, none⟩)) ∧ ∃ x, w' = w.setCell ⟨g, 1, none⟩ (.string x) := by
 have c0 := (h.cell 0).trans rfl
 have c1 := (h.cell 1).trans rfl
 have z1 := h.frozen 1
 clear h
 go_enter Tryz.func39, Tryz.ntmps39
 go_wp2_with fail
 go_ret
 exact ⟨rfl, _, rfl⟩
theorem bytes_body (W : World) (e : TypeId) (s : ByteArray) : BodyAt (Lib.bytesWorld W e s) W.heap.size s := fun j hj => by
 rw [Lib.bytesWorld_cell W e s j hj, bt_nat s j hj]
 have h' : j < s.data.toList.length := by simpa using hj
 rw [List.getD_eq_getElem?_getD, List.getElem?_eq_getElem h']
 rfl
structure LxAt (s : ByteArray) (lx : Nat → Option Tok) (ask : Nat → Prop) : Prop where
 ok : ∀ pb qb xb sb bb cap, OKLex ⟨pb, qb, xb, sb, bb, cap, s, lx, ask⟩
 a0 : ask 0
theorem src_made (w : World) (s : ByteArray) (lx : Nat → Option Tok) (ask : Nat → Prop) (cap : Nat) (x : ByteArray) (hx : LxAt s lx ask) (ht : Tabs w) (hsz : s.size ≤ 100000) (hcap : s.size ≤ cap) :
  SrcAt (w.heap.size + 1) w.heap.size cap s lx ask (((Lib.bytesWorld w 5 s).alloc (.cells #[.slice (some ⟨w.heap.size, 0, none⟩) s.size cap, .string ⟨#[]⟩] 92)).setCell ⟨w.heap.size + 1, 1, none⟩ (.string x)) ∧
  Below w.heap.size w (((Lib.bytesWorld w 5 s).alloc (.cells #[.slice (some ⟨w.heap.size, 0, none⟩) s.size cap, .string ⟨#[]⟩] 92)).setCell ⟨w.heap.size + 1, 1, none⟩ (.string x)) := by
 have h3 := Lib.bytesWorld_size w 5 s
 have h1 := bytes_body w 5 s
 have h2 : Below w.heap.size w (Lib.bytesWorld w 5 s) := bytes_below (Below.refl _ _) (Nat.le_refl _) _ s
 generalize Lib.bytesWorld w 5 s = W at *
 have hb := Blk.new W 92 #[.slice (some ⟨w.heap.size, 0, none⟩) s.size cap, .string ⟨#[]⟩]
 rw [h3] at hb
 have hb2 := hb.set_ 1 (.string x)
 have hB1 : Below W.heap.size W (W.alloc (.cells #[.slice (some ⟨w.heap.size, 0, none⟩) s.size cap, .string ⟨#[]⟩] 92)) := below_alloc (Below.refl _ _) _
 have hB : Below W.heap.size W ((W.alloc (.cells #[.slice (some ⟨w.heap.size, 0, none⟩) s.size cap, .string ⟨#[]⟩] 92)).setCell ⟨w.heap.size + 1, 1, none⟩ (.string x)) := hB1.setCell (p := ⟨w.heap.size + 1, 1, none⟩) (by show W.heap.size ≤ w.heap.size + 1; omega) _
 have hBB := h2.trans (hB.mono (by omega))
 refine ⟨⟨⟨fun j hj => pw_cell_below hB (h1 j hj), Utf8Tabs_below ht hBB, (hb2.cell 0).trans rfl, hcap, hsz⟩, fun pb qb xb => hx.ok pb qb xb _ _ _, ?_, hx.a0⟩, hBB⟩
 have := hB.size
 omega
theorem door_begin (s : ByteArray) (lx : Nat → Option Tok) (ask : Nat → Prop) (w : World) (hx : LxAt s lx ask) (ht : Tabs w) (hsz : s.size ≤ 100000) :
  Calls Tryz.prog 19 #[.string s] w (Begun s lx ask w) := by
 have kb := fun W => print_bytes (P := Tryz.prog) 9 90 5 Tryz.underlying9 Tryz.underlying90 Tryz.underlying5 s W
 have HSM := aK (fun cap x hc => src_made w s lx ask cap x hx ht hsz hc)
 clear hx ht hsz
 go_enter Tryz.func19, Tryz.ntmps19
 go_wp2_with fail
 have hcap := grownCap_ge w s.size 0 5
 generalize grownCap w s.size 0 5 = cap at *
 have hW3 := Lib.bytesWorld_size w 5 s
 have HSMO := aK (HSM.out cap)
 generalize Lib.bytesWorld w 5 s = W2 at *
 refine (new_source W2.heap.size s.size cap w.heap.size _ (Blk.new _ _ _)).mono ?_
 rintro e w4 ⟨rfl, x, rfl⟩
 obtain ⟨hsrc, hbw⟩ := HSMO.out x hcap
 rw [hW3]
 generalize (W2.alloc (.cells #[.slice (some ⟨w.heap.size, 0, none⟩) s.size cap, .string ⟨#[]⟩] 92)).setCell ⟨w.heap.size + 1, 1, none⟩ (.string x) = W5 at *
 have HBG := aK (begin_any _ _ cap s lx ask W5 hsrc)
 have HBW := aK hbw
 clear hsrc hbw hW3 HSMO HSM hcap kb
 go_wp2_with fail
 refine HBG.out.mono ?_
 rintro e w6 (⟨E, t1, hE, hlx, hask, ht1, rfl, hps, hl1, hl2, hg1, hg2, hb⟩ | ⟨hn, ⟨p, g, rfl⟩, hb⟩)
 ·have HR := aK (⟨hE, hlx, hask, ht1, hps, hl1, hl2⟩ : E.s = s ∧ E.lx = lx ∧ E.ask = ask ∧ lx 0 = some t1 ∧ PS E w6 t1 ∧ E.pb < w6.heap.size ∧ E.qb < w6.heap.size)
  have HR2 := aK (⟨Nat.le_trans HBW.out.size hg1, Nat.le_trans HBW.out.size hg2, HBW.out.trans (hb.mono HBW.out.size)⟩ : w.heap.size ≤ E.pb ∧ w.heap.size ≤ E.qb ∧ Below w.heap.size w w6)
  clear hE hlx hask ht1 hps hl1 hl2 hg1 hg2 hb
  go_wp2_with fail
  go_ret2
  exact .inl ⟨E, t1, HR.out.1, HR.out.2.1, HR.out.2.2.1, HR.out.2.2.2.1, rfl, HR.out.2.2.2.2.1, HR.out.2.2.2.2.2.1, HR.out.2.2.2.2.2.2, HR2.out⟩
 ·have HR := aK hn
  have HR2 := aK (HBW.out.trans (hb.mono HBW.out.size))
  clear hn hb
  go_wp2_with fail
  go_ret2
  exact .inr ⟨HR.out, ⟨_, g, rfl⟩, HR2.out⟩
theorem pb_left {E : At} {w w' : World} {t : Tok} (h : PS E w t) (hk : Keeps E.pb E.qb w w') : ∃ x0 x1 x2 x3 x4 x5 x6 x7 x8, Blk w' E.pb 66 #[x0, x1, x2, x3, x4, x5, x6, x7, x8] := by
 obtain ⟨pe, hb⟩ := h.blk
 obtain ⟨cs, h1, h2⟩ := hk.shape _ _ _ _ hb
 obtain ⟨⟨l⟩⟩ : ∃ l : Array Value, True := ⟨cs, trivial⟩
 match cs, h2, h1 with
 | ⟨[x0, x1, x2, x3, x4, x5, x6, x7, x8]⟩, _, h1 => exact ⟨x0, x1, x2, x3, x4, x5, x6, x7, x8, h1⟩
def RVD (goal : Option (List NL × Tok)) (e : Ending) (w' : World) : Prop :=
 (∃ y t v L n, goal = some (y, t) ∧ e = .returned (.tuple #[v, .int .i64 t.start, .nilIface]) ∧ GRowD L (GDir L n) y w' v ∧ y.flatten.length ≤ 2001) ∨ (goal = none ∧ ∃ v k g, e = .returned (.tuple #[v, k, errV g]))
theorem door_dirs (s : ByteArray) (lx : Nat → Option Tok) (ask : Nat → Prop) (w : World) (hx : LxAt s lx ask) (ht : Tabs w) (hsz : s.size ≤ 2000) :
  Calls Tryz.prog 9 #[.string s] w fun e w' => RVD ((lx 0).bind (nDirs lx 200000 200000)) e w' ∧ Below w.heap.size w w' := by
 have HBG := aK (door_begin s lx ask w hx ht (by omega))
 have HX := aK hx
 clear hx ht
 go_enter Tryz.func9, Tryz.ntmps9
 go_wp2_with fail
 refine HBG.out.mono ?_
 rintro e w1 (⟨E, t, rfl, hlx, hask, h0, rfl, hps, hl1, hl2, hg1, hg2, hb⟩ | ⟨hn, ⟨p, g, rfl⟩, hb⟩)
 ·have hok := (HX.out.ok E.pb E.qb E.xb E.sb E.bb E.cap).prog
  have HLV := aK (dirs_any E w1.heap.size ⟨hl1, hl2⟩ 200000 (Nat.le_refl _) w1 t hps (Nat.le_refl _) (by unfold nu; split <;> omega))
  rw [hlx] at HLV
  have HG := aK (show (lx 0).bind (nDirs lx 200000 200000) = nDirs lx 200000 200000 t by rw [h0]; rfl)
  have HLE := aK (fun (y : List NL) (t' : Tok) (h : nDirs lx 200000 200000 t = some (y, t')) => (show y.flatten.length ≤ 2001 by
   have h1 := (WtL.wt_dirs hok 200000 200000 t _ hps.le h).2.2
   have h2 : mu E.s t ≤ E.s.size + 1 := by unfold mu; split <;> omega
   have h3 : y.flatten.length + mu E.s t' ≤ mu E.s t := h1
   omega))
  have HPS := aK hps
  have HB := aK (⟨hg1, hg2, hb⟩ : w.heap.size ≤ E.pb ∧ w.heap.size ≤ E.qb ∧ Below w.heap.size w w1)
  clear hlx hask h0 hps hl1 hl2 hg1 hg2 hb hok
  go_wp2_with fail
  refine HLV.out.mono ?_
  rintro e w2 (⟨y, t', x, hv, rfl, hg, hk, hp⟩ | ⟨hv, v, ⟨g, rfl⟩, hk⟩)
  ·obtain ⟨c1, c2, c3, c4, c5, c6, c7, c8⟩ := ps_cells hp
   have HR := aK (⟨hv, hg, hk⟩ : nDirs lx 200000 200000 t = some (y, t') ∧ GRowD w1.heap.size (GDir w1.heap.size 200000) y w2 x ∧ Keeps E.pb E.qb w1 w2)
   clear hv hg hk hp
   go_wp2_with fail
   go_quiet (fail)
   go_wp2_with fail
   refine bodyPost_ret (v := .tuple #[x, .int .i64 t'.start, .nilIface]) ?_ rfl ⟨.inl ⟨y, t', _, w1.heap.size, 200000, HG.out.trans HR.out.1, rfl, st_rowS (fun y => s2_dir.one) _ _ _ (Up.of_below (pw_below_drewN (Below.refl _ _) _)) HR.out.2.1, HLE.out y t' HR.out.1⟩, ?_⟩
   ·simp [results, Tryz.results9, go_sem, errV]
   ·have hbb := HB.out.2.2.trans (HR.out.2.2.below HB.out.2.2.size HB.out.1 HB.out.2.1)
    exact pw_below_drewN hbb _
  ·obtain ⟨x0, x1, x2, x3, x4, x5, x6, x7, x8, hbk⟩ := pb_left HPS.out hk
   have c6 := (hbk.cell 6).trans rfl
   have HR := aK (⟨hv, hk⟩ : nDirs lx 200000 200000 t = none ∧ Keeps E.pb E.qb w1 w2)
   clear hv hk hbk
   go_wp2_with fail
   go_quiet (fail)
   go_wp2_with fail
   refine bodyPost_ret (v := .tuple #[v, x6, errV g]) ?_ rfl ⟨.inr ⟨HG.out.trans HR.out.1, _, _, g, rfl⟩, ?_⟩
   ·simp [results, Tryz.results9, go_sem, errV]
   ·have hbb := HB.out.2.2.trans (HR.out.2.below HB.out.2.2.size HB.out.1 HB.out.2.1)
    exact pw_below_drewN hbb _
 ·have HR := aK (⟨hn, hb⟩ : lx 0 = none ∧ Below w.heap.size w w1)
  clear hn hb
  go_wp2_with fail
  refine bodyPost_ret (v := .tuple #[.slice none 0 0, .int .i64 0, errV g]) ?_ rfl ⟨.inr ⟨by rw [HR.out.1]; rfl, _, _, g, rfl⟩, HR.out.2⟩
  simp [results, Tryz.results9, go_sem, errV]
end Go.Proofs.YtjoagdldbmlenaaGreatDoor.Par
