import Derived.Test.YtjoagdldbmlenaaGreatDoorVD1
import Derived.StillTailTactics
import Derived.Test.YtjoagdldbmlenaaGreatDoorVA2
set_option maxRecDepth 100000
set_option maxHeartbeats 8000000
set_option linter.unusedVariables false
set_option linter.unusedSimpArgs false
namespace Go.Proofs.YtjoagdldbmlenaaGreatDoor.New
open Go.RowKit Go.Proofs.YtjoagdldbmlenaaGreatDoorW.PrintWords Keep Env Par
theorem new_Name (g : Nat) (x0 : ByteArray) (x1 : Option Addr) (x2 : ByteArray) (w : World) (h : Blk w g 100 #[.string x0, .pointer x1, .string x2]) :
  Calls Tryz.prog 77 #[.pointer (some ⟨g, 0, none⟩)] w fun e w' => ∃ n, e = .returned (.pointer (some ⟨n, 0, none⟩)) ∧ g ≤ n ∧ (∃ s, Blk w' n 100 #[.string s, .pointer x1, .string x2]) ∧ Keeps g g w w' := by
 have c0 := (h.cell 0).trans rfl
 have c1 := (h.cell 1).trans rfl
 have c2 := (h.cell 2).trans rfl
 have z0 := h.frozen 0
 have hl := h.lt
 have H := aK h
 clear h
 go_enter Tryz.func77, Tryz.ntmps77
 go_wp2_with fail
 go_ret
 exact ⟨g, rfl, Nat.le_refl _, ⟨_, H.out.set_ 0 _⟩, (Keeps.refl g g w).setP 0 _⟩
theorem new_Variable (g : Nat) (x0 : ByteArray) (x1 : Option Addr) (x2 : Option Addr) (w : World) (h : Blk w g 124 #[.string x0, .pointer x1, .pointer x2]) :
  Calls Tryz.prog 134 #[.pointer (some ⟨g, 0, none⟩)] w fun e w' => ∃ n, e = .returned (.pointer (some ⟨n, 0, none⟩)) ∧ g ≤ n ∧ (∃ s, Blk w' n 124 #[.string s, .pointer x1, .pointer x2]) ∧ Keeps g g w w' := by
 have c0 := (h.cell 0).trans rfl
 have c1 := (h.cell 1).trans rfl
 have c2 := (h.cell 2).trans rfl
 have z0 := h.frozen 0
 have hl := h.lt
 have H := aK h
 clear h
 go_enter Tryz.func134, Tryz.ntmps134
 go_wp2_with fail
 go_ret
 exact ⟨g, rfl, Nat.le_refl _, ⟨_, H.out.set_ 0 _⟩, (Keeps.refl g g w).setP 0 _⟩
theorem new_Argument (g : Nat) (x0 : ByteArray) (x1 : Option Addr) (x2 : Option Addr) (x3t : TypeId) (x3v : Value) (w : World) (h : Blk w g 105 #[.string x0, .pointer x1, .pointer x2, .iface x3t x3v]) :
  Calls Tryz.prog 98 #[.pointer (some ⟨g, 0, none⟩)] w fun e w' => ∃ n, e = .returned (.pointer (some ⟨n, 0, none⟩)) ∧ g ≤ n ∧ (∃ s, Blk w' n 105 #[.string s, .pointer x1, .pointer x2, .iface x3t x3v]) ∧ Keeps g g w w' := by
 have c0 := (h.cell 0).trans rfl
 have c1 := (h.cell 1).trans rfl
 have c2 := (h.cell 2).trans rfl
 have c3 := (h.cell 3).trans rfl
 have z0 := h.frozen 0
 have hl := h.lt
 have H := aK h
 clear h
 go_enter Tryz.func98, Tryz.ntmps98
 go_wp2_with fail
 go_ret
 exact ⟨g, rfl, Nat.le_refl _, ⟨_, H.out.set_ 0 _⟩, (Keeps.refl g g w).setP 0 _⟩
theorem new_Location (g : Nat)  (x1 : Int) (x2 : Int) (x3 : Option Addr) (w : World) (h : Blk w g 97 #[.int .i64 x1, .int .i64 x2, .pointer x3]) :
  Calls Tryz.prog 80 #[.pointer (some ⟨g, 0, none⟩)] w fun e w' => ∃ n, e = .returned (.pointer (some ⟨n, 0, none⟩)) ∧ g ≤ n ∧ (Blk w' n 97 #[.int .i64 x1, .int .i64 x2, .pointer x3]) ∧ Keeps g g w w' := by
 have c0 := (h.cell 0).trans rfl
 have c1 := (h.cell 1).trans rfl
 have c2 := (h.cell 2).trans rfl
 have z0 := h.frozen 0
 have hl := h.lt
 have H := aK h
 clear h
 go_enter Tryz.func80, Tryz.ntmps80
 go_wp2_with fail
 go_region
 all_goals
  go_wp2_with fail
  go_ret
  exact ⟨w.heap.size, rfl, by omega, Blk.new _ _ _, ((Keeps.refl g g w).drew).alloc _⟩
theorem new_IntValue (g : Nat) (x0 : ByteArray) (x1 : Option Addr) (x2 : ByteArray) (w : World) (h : Blk w g 126 #[.string x0, .pointer x1, .string x2]) :
  Calls Tryz.prog 109 #[.pointer (some ⟨g, 0, none⟩)] w fun e w' => ∃ n, e = .returned (.pointer (some ⟨n, 0, none⟩)) ∧ g ≤ n ∧ (∃ s, Blk w' n 126 #[.string s, .pointer x1, .string x2]) ∧ Keeps g g w w' := by
 have c0 := (h.cell 0).trans rfl
 have c1 := (h.cell 1).trans rfl
 have c2 := (h.cell 2).trans rfl
 have z0 := h.frozen 0
 have hl := h.lt
 have H := aK h
 clear h
 go_enter Tryz.func109, Tryz.ntmps109
 go_wp2_with fail
 go_region
 all_goals
  go_wp2_with fail
  go_ret
  exact ⟨w.heap.size, rfl, by omega, ⟨_, Blk.new _ _ _⟩, ((Keeps.refl g g w).drew).alloc _⟩
theorem new_FloatValue (g : Nat) (x0 : ByteArray) (x1 : Option Addr) (x2 : ByteArray) (w : World) (h : Blk w g 128 #[.string x0, .pointer x1, .string x2]) :
  Calls Tryz.prog 110 #[.pointer (some ⟨g, 0, none⟩)] w fun e w' => ∃ n, e = .returned (.pointer (some ⟨n, 0, none⟩)) ∧ g ≤ n ∧ (∃ s, Blk w' n 128 #[.string s, .pointer x1, .string x2]) ∧ Keeps g g w w' := by
 have c0 := (h.cell 0).trans rfl
 have c1 := (h.cell 1).trans rfl
 have c2 := (h.cell 2).trans rfl
 have z0 := h.frozen 0
 have hl := h.lt
 have H := aK h
 clear h
 go_enter Tryz.func110, Tryz.ntmps110
 go_wp2_with fail
 go_region
 all_goals
  go_wp2_with fail
  go_ret
  exact ⟨w.heap.size, rfl, by omega, ⟨_, Blk.new _ _ _⟩, ((Keeps.refl g g w).drew).alloc _⟩
theorem new_EnumValue (g : Nat) (x0 : ByteArray) (x1 : Option Addr) (x2 : ByteArray) (w : World) (h : Blk w g 135 #[.string x0, .pointer x1, .string x2]) :
  Calls Tryz.prog 113 #[.pointer (some ⟨g, 0, none⟩)] w fun e w' => ∃ n, e = .returned (.pointer (some ⟨n, 0, none⟩)) ∧ g ≤ n ∧ (∃ s, Blk w' n 135 #[.string s, .pointer x1, .string x2]) ∧ Keeps g g w w' := by
 have c0 := (h.cell 0).trans rfl
 have c1 := (h.cell 1).trans rfl
 have c2 := (h.cell 2).trans rfl
 have z0 := h.frozen 0
 have hl := h.lt
 have H := aK h
 clear h
 go_enter Tryz.func113, Tryz.ntmps113
 go_wp2_with fail
 go_region
 all_goals
  go_wp2_with fail
  go_ret
  exact ⟨w.heap.size, rfl, by omega, ⟨_, Blk.new _ _ _⟩, ((Keeps.refl g g w).drew).alloc _⟩
theorem new_BooleanValue (g : Nat) (x0 : ByteArray) (x1 : Option Addr) (x2 : Bool) (w : World) (h : Blk w g 133 #[.string x0, .pointer x1, .bool x2]) :
  Calls Tryz.prog 112 #[.pointer (some ⟨g, 0, none⟩)] w fun e w' => ∃ n, e = .returned (.pointer (some ⟨n, 0, none⟩)) ∧ g ≤ n ∧ (∃ s, Blk w' n 133 #[.string s, .pointer x1, .bool x2]) ∧ Keeps g g w w' := by
 have c0 := (h.cell 0).trans rfl
 have c1 := (h.cell 1).trans rfl
 have c2 := (h.cell 2).trans rfl
 have z0 := h.frozen 0
 have hl := h.lt
 have H := aK h
 clear h
 go_enter Tryz.func112, Tryz.ntmps112
 go_wp2_with fail
 go_region
 all_goals
  go_wp2_with fail
  go_ret
  exact ⟨w.heap.size, rfl, by omega, ⟨_, Blk.new _ _ _⟩, ((Keeps.refl g g w).drew).alloc _⟩
theorem new_ListValue (g : Nat) (x0 : ByteArray) (x1 : Option Addr) (x2a : Option Addr) (x2n x2c : Nat) (w : World) (h : Blk w g 139 #[.string x0, .pointer x1, .slice x2a x2n x2c]) :
  Calls Tryz.prog 130 #[.pointer (some ⟨g, 0, none⟩)] w fun e w' => ∃ n, e = .returned (.pointer (some ⟨n, 0, none⟩)) ∧ g ≤ n ∧ (∃ s, Blk w' n 139 #[.string s, .pointer x1, .slice x2a x2n x2c]) ∧ Keeps g g w w' := by
 have c0 := (h.cell 0).trans rfl
 have c1 := (h.cell 1).trans rfl
 have c2 := (h.cell 2).trans rfl
 have z0 := h.frozen 0
 have hl := h.lt
 have H := aK h
 clear h
 go_enter Tryz.func130, Tryz.ntmps130
 go_wp2_with fail
 go_region
 all_goals
  go_wp2_with fail
  go_ret
  exact ⟨w.heap.size, rfl, by omega, ⟨_, Blk.new _ _ _⟩, ((Keeps.refl g g w).drew).alloc _⟩
theorem new_Directive (g : Nat) (x0 : ByteArray) (x1 : Option Addr) (x2 : Option Addr) (x3a : Option Addr) (x3n x3c : Nat) (w : World) (h : Blk w g 73 #[.string x0, .pointer x1, .pointer x2, .slice x3a x3n x3c]) :
  Calls Tryz.prog 61 #[.pointer (some ⟨g, 0, none⟩)] w fun e w' => ∃ n, e = .returned (.pointer (some ⟨n, 0, none⟩)) ∧ g ≤ n ∧ (∃ s, Blk w' n 73 #[.string s, .pointer x1, .pointer x2, .slice x3a x3n x3c]) ∧ Keeps g g w w' := by
 have c0 := (h.cell 0).trans rfl
 have c1 := (h.cell 1).trans rfl
 have c2 := (h.cell 2).trans rfl
 have c3 := (h.cell 3).trans rfl
 have z0 := h.frozen 0
 have hl := h.lt
 have H := aK h
 clear h
 go_enter Tryz.func61, Tryz.ntmps61
 go_wp2_with fail
 go_region
 all_goals
  go_wp2_with fail
  go_ret
  exact ⟨w.heap.size, rfl, by omega, ⟨_, Blk.new _ _ _⟩, ((Keeps.refl g g w).drew).alloc _⟩
theorem new_StringValue (g : Nat) (x0 : ByteArray) (x1 : Option Addr) (x2 : ByteArray) (w : World) (h : Blk w g 130 #[.string x0, .pointer x1, .string x2]) :
  Calls Tryz.prog 133 #[.pointer (some ⟨g, 0, none⟩)] w fun e w' => ∃ n, e = .returned (.pointer (some ⟨n, 0, none⟩)) ∧ g ≤ n ∧ (∃ s, Blk w' n 130 #[.string s, .pointer x1, .string x2]) ∧ Keeps g g w w' := by
 have c0 := (h.cell 0).trans rfl
 have c1 := (h.cell 1).trans rfl
 have c2 := (h.cell 2).trans rfl
 have z0 := h.frozen 0
 have hl := h.lt
 have H := aK h
 clear h
 go_enter Tryz.func133, Tryz.ntmps133
 go_wp2_with fail
 go_region
 all_goals
  go_wp2_with fail
  go_ret
  exact ⟨w.heap.size, rfl, by omega, ⟨_, Blk.new _ _ _⟩, ((Keeps.refl g g w).drew).alloc _⟩
theorem new_ObjectValue (g : Nat) (x0 : ByteArray) (x1 : Option Addr) (x2a : Option Addr) (x2n x2c : Nat) (w : World) (h : Blk w g 143 #[.string x0, .pointer x1, .slice x2a x2n x2c]) :
  Calls Tryz.prog 132 #[.pointer (some ⟨g, 0, none⟩)] w fun e w' => ∃ n, e = .returned (.pointer (some ⟨n, 0, none⟩)) ∧ g ≤ n ∧ (∃ s, Blk w' n 143 #[.string s, .pointer x1, .slice x2a x2n x2c]) ∧ Keeps g g w w' := by
 have c0 := (h.cell 0).trans rfl
 have c1 := (h.cell 1).trans rfl
 have c2 := (h.cell 2).trans rfl
 have z0 := h.frozen 0
 have hl := h.lt
 have H := aK h
 clear h
 go_enter Tryz.func132, Tryz.ntmps132
 go_wp2_with fail
 go_region
 all_goals
  go_wp2_with fail
  go_ret
  exact ⟨w.heap.size, rfl, by omega, ⟨_, Blk.new _ _ _⟩, ((Keeps.refl g g w).drew).alloc _⟩
theorem new_ObjectField (g : Nat) (x0 : ByteArray) (x1 : Option Addr) (x2 : Option Addr) (x3t : TypeId) (x3v : Value) (w : World) (h : Blk w g 146 #[.string x0, .pointer x1, .pointer x2, .iface x3t x3v]) :
  Calls Tryz.prog 143 #[.pointer (some ⟨g, 0, none⟩)] w fun e w' => ∃ n, e = .returned (.pointer (some ⟨n, 0, none⟩)) ∧ g ≤ n ∧ (∃ s, Blk w' n 146 #[.string s, .pointer x1, .pointer x2, .iface x3t x3v]) ∧ Keeps g g w w' := by
 have c0 := (h.cell 0).trans rfl
 have c1 := (h.cell 1).trans rfl
 have c2 := (h.cell 2).trans rfl
 have c3 := (h.cell 3).trans rfl
 have z0 := h.frozen 0
 have hl := h.lt
 have H := aK h
 clear h
 go_enter Tryz.func143, Tryz.ntmps143
 go_wp2_with fail
 go_region
 all_goals
  go_wp2_with fail
  go_ret
  exact ⟨w.heap.size, rfl, by omega, ⟨_, Blk.new _ _ _⟩, ((Keeps.refl g g w).drew).alloc _⟩
end Go.Proofs.YtjoagdldbmlenaaGreatDoor.New
namespace Go.Proofs.YtjoagdldbmlenaaGreatDoor.Par
open Go.RowKit Go.Proofs.YtjoagdldbmlenaaGreatDoorW.PrintWords Keep Go.Proofs.YtjoagdldbmlenaaGreatDoor.Mod Sim Four Step Env Err Lx Ast New Tree
theorem made_below {w w' : World} {o : Obj} (hk : Keeps w.heap.size w.heap.size (w.alloc o) w') : Below w.heap.size w w' :=
 ((Below.refl w.heap.size w).alloc (Nat.le_refl _) o).trans ⟨hk.os, hk.tape, hk.output, hk.size, fun k h => hk.block k (by simp; omega) (by omega) (by omega)⟩
theorem made_drew {w w' : World} {o : Obj} (hk : Keeps w.heap.size w.heap.size (w.alloc o).drew w') : Below w.heap.size w w' := made_below (o := o) ⟨hk.os, hk.tape, hk.output, hk.size, hk.block, hk.shape⟩
theorem loc_any (E : At) (w : World) (t : Tok) (st : Int) (L : Nat) (hP : PS E w t) (hL : L ≤ w.heap.size) :
  Calls Tryz.prog 62 #[.pointer (some ⟨E.pb, 0, none⟩), .int .i64 st] w fun e w' => ∃ v, e = .returned v ∧ GLoc L w' v ∧ (∃ a, v = .pointer a) ∧ Below w.heap.size w w' := by
 obtain ⟨c1, c2, c3, ⟨pe, c4⟩, c5, c6, c7, c8⟩ := ps_cells hP
 have HN := aK (new_Location w.heap.size st pe (some ⟨E.sb, 0, none⟩) ((w.alloc (.cells #[.int .i64 st, .int .i64 pe, .pointer (some ⟨E.sb, 0, none⟩)] 97)).drew) (Blk.drew (Blk.new _ _ _)))
 clear hP c5 c6 c7 c8
 go_enter Tryz.func62, Tryz.ntmps62
 go_wp2_with fail
 go_region_with (go_at_call 80; refine HN.out.mono ?_; rintro e w2 ⟨n, rfl, hn, hb, hk⟩)
 all_goals
  have hb2 := aK hb
  have hk2 := aK hk
  clear hb hk
  go_wp2_with fail
  go_ret
  exact ⟨_, rfl, ⟨n, st, pe, rfl, .of_blk hb2.out (by omega) rfl (by decide), .of_blk hb2.out (by omega) rfl (by decide)⟩, ⟨_, rfl⟩, made_drew hk2.out⟩
theorem expect_some (E : At) (w : World) (t t' : Tok) (k : Int) (hP : PS E w t) (h : mTok (E.lx) k t = some t') :
  Calls Tryz.prog 58 #[.pointer (some ⟨E.pb, 0, none⟩), .int .i64 k] w fun e w' => e = .returned (.tuple #[tokV t, .nilIface]) ∧ Keeps E.pb E.qb w w' ∧ PS E w' t' := by
 unfold mTok at h
 by_cases hk : t.kind = k
 ·rw [if_pos hk] at h; exact expect_yes E w t t' k hP hk h
 ·rw [if_neg hk] at h; cases h
theorem expect_none (E : At) (w : World) (t : Tok) (k : Int) (hP : PS E w t) (h : mTok (E.lx) k t = none) :
  Calls Tryz.prog 58 #[.pointer (some ⟨E.pb, 0, none⟩), .int .i64 k] w fun e w' => (∃ g, e = .returned (.tuple #[tokV t, errV g])) ∧ Keeps E.pb E.qb w w' := by
 unfold mTok at h
 by_cases hk : t.kind = k
 ·rw [if_pos hk] at h; exact expect_adv E w t k hP hk h
 ·exact expect_no E w t k hP hk
def PErr (E : At) (w : World) (v : Value) (e : Ending) (w' : World) : Prop := (∃ g, e = .returned (.tuple #[v, errV g])) ∧ Keeps E.pb E.qb w w'
theorem token_cells {w2 : World} (t : Tok) : (w2.alloc (.cells #[.int .i64 t.kind, .int .i64 t.start, .int .i64 t.stop, .string t.value] 59)).cell? ⟨w2.heap.size, 1, none⟩ = some (.int .i64 t.start) ∧ (w2.alloc (.cells #[.int .i64 t.kind, .int .i64 t.start, .int .i64 t.stop, .string t.value] 59)).cell? ⟨w2.heap.size, 3, none⟩ = some (.string t.value) := by
 have h := Blk.new w2 59 #[.int .i64 t.kind, .int .i64 t.start, .int .i64 t.stop, .string t.value]
 exact ⟨(h.cell 1).trans rfl, (h.cell 3).trans rfl⟩
theorem tok_after {w2 w3 : World} {o : Obj} (hb : Below (w2.alloc o).drew.heap.size (w2.alloc o).drew w3) : Below w2.heap.size w2 w3 :=
 (below_drew (below_alloc (Below.refl w2.heap.size w2) o)).trans (hb.mono (by show w2.heap.size ≤ (w2.alloc o).heap.size; simp))
theorem made_after {w2 w3 w5 : World} {o o' : Obj} (hb : Below (w2.alloc o).drew.heap.size (w2.alloc o).drew w3) (hk : Keeps w3.heap.size w3.heap.size (w3.alloc o') w5) : Below w2.heap.size w2 w5 :=
 (tok_after hb).trans ((made_below hk).mono (tok_after hb).size)
theorem name_yes (E : At) (w : World) (t t' : Tok) (L : Nat) (hP : PS E w t) (hL : L ≤ w.heap.size) (h : mName (E.lx) t = some t') :
  Calls Tryz.prog 59 #[.pointer (some ⟨E.pb, 0, none⟩)] w fun e w' => ∃ n, e = .returned (.tuple #[.pointer (some ⟨n, 0, none⟩), .nilIface]) ∧ GName L t.value w' (ptr n) ∧ Keeps E.pb E.qb w w' ∧ PS E w' t' := by
 have HX := aK (expect_some E w t t' 15 hP h)
 have hlw := ps_lt hP
 have HP0 := aK hP
 clear hP h
 go_enter Tryz.func59, Tryz.ntmps59
 go_wp2_with fail
 refine HX.out.mono ?_
 rintro e w2 ⟨rfl, hk, hp⟩
 have HK := aK hk
 have HP2 := aK hp
 have hsz := hk.size
 obtain ⟨r1, r3⟩ := token_cells (w2 := w2) t
 have HL := aK (fun W (hb : Below w2.heap.size w2 W) => loc_any E W t' t.start L (hp.below hb) (by have := hb.size; omega))
 clear hk hp
 go_wp2_with fail
 go_region_with (first | (go_at_call 62; refine (HL.out (World.drew (World.alloc _ _)) (below_drew (below_alloc (Below.refl _ _) _))).mono ?_; rintro e w3 ⟨v, rfl, hg, ⟨a, rfl⟩, hb⟩; have r1' := pw_cell_below hb r1; have r3' := pw_cell_below hb r3) | (go_at_call 77; refine (new_Name w3.heap.size _ a t.value _ (Blk.new _ _ _)).mono ?_; rintro e w5 ⟨n, rfl, hn, ⟨s5, hb5⟩, hk5⟩))
 all_goals
  have hb' := aK hb
  have hb5' := aK hb5
  have hk5' := aK hk5
  clear hb hb5 hk5
  go_wp2_with fail
  have hbb := made_after hb'.out hk5'.out
  have hs3 : w2.heap.size ≤ w3.heap.size := (tok_after hb'.out).size
  refine bodyPost_ret (v := .tuple #[.pointer (some ⟨n, 0, none⟩), .nilIface]) (by simp [results, Tryz.results59, go_sem]) rfl ⟨n, rfl, ⟨n, rfl, .of_blk hb5'.out (by omega) rfl (by decide)⟩, HK.out.then hbb, HP2.out.below hbb⟩
theorem name_no (E : At) (w : World) (t : Tok) (hP : PS E w t) (h : mName (E.lx) t = none) :
  Calls Tryz.prog 59 #[.pointer (some ⟨E.pb, 0, none⟩)] w fun e w' => PErr E w (.pointer none) e w' := by
 have HX := aK (expect_none E w t 15 hP h)
 clear hP h
 go_enter Tryz.func59, Tryz.ntmps59
 go_wp2_with fail
 refine HX.out.mono ?_
 rintro e w2 ⟨⟨g, rfl⟩, hk⟩
 have HK := aK hk
 clear hk
 go_wp2_with fail
 go_ret2
 exact ⟨⟨g, rfl⟩, HK.out.alloc _⟩
theorem made_two {w2 w3 w5 : World} {o' : Obj} (hb : Below w2.heap.size w2 w3) (hk : Keeps w3.heap.size w3.heap.size (w3.alloc o') w5) : Below w2.heap.size w2 w5 :=
 hb.trans ((made_below hk).mono hb.size)
theorem st_gloc {L : Nat} {w w' : World} {v : Value} (h : GLoc L w v) (hb : Below w.heap.size w w') : GLoc L w' v := st_loc _ _ _ (Up.of_below hb) h
theorem st_gname {L : Nat} {s : ByteArray} {w w' : World} {v : Value} (h : GName L s w v) (hb : Below w.heap.size w w') : GName L s w' v := st_name _ _ _ (Up.of_below hb) h
theorem var_yes (E : At) (w : World) (t t' : Tok) (y : NL) (L : Nat) (hP : PS E w t) (hL : L ≤ w.heap.size) (h : nVar (E.lx) t = some (y, t')) :
  Calls Tryz.prog 114 #[.pointer (some ⟨E.pb, 0, none⟩)] w fun e w' => ∃ n, e = .returned (.tuple #[.pointer (some ⟨n, 0, none⟩), .nilIface]) ∧ (∀ k, GVal L (k + 1) y w' (.iface 122 (ptr n))) ∧ Keeps E.pb E.qb w w' ∧ PS E w' t' := by
 have key : ∃ t1, mTok (E.lx) 3 t = some t1 ∧ mName (E.lx) t1 = some t' ∧ y = nd 11 t1.value emp emp 0 [] := by
  obtain ⟨t1, h1, h⟩ := Option.bind_eq_some_iff.1 h
  obtain ⟨x, h, e1⟩ := Option.map_eq_some_iff.1 h
  obtain ⟨t3, hn, rfl⟩ := Option.map_eq_some_iff.1 h
  exact ⟨t1, h1, by rw [← (Prod.mk.inj e1).2]; exact hn, (Prod.mk.inj e1).1.symm⟩
 obtain ⟨t1, h1, hn, rfl⟩ := key
 have HX := aK (expect_some E w t t1 3 hP h1)
 have HN := aK (fun W (hp : PS E W t1) (hl : L ≤ W.heap.size) => name_yes E W t1 t' L hp hl hn)
 obtain ⟨c1, c2, c3, c4, c5, c6, c7, c8⟩ := ps_cells hP
 clear hP h h1 hn c1 c2 c3 c4 c5 c7 c8
 go_enter Tryz.func114, Tryz.ntmps114
 go_wp2_with fail
 refine HX.out.mono ?_
 rintro e w2 ⟨rfl, hk, hp⟩
 have HK := aK hk
 have HN2 := aK (HN.out w2 hp (by have := hk.size; omega))
 clear hk hp
 go_wp2_with fail
 refine HN2.out.mono ?_
 rintro e w3 ⟨n3, rfl, hg3, hk3, hp3⟩
 have HK3 := aK (HK.out.trans hk3)
 have HG3 := aK hg3
 have HP3 := aK hp3
 have HL := aK (loc_any E w3 t' t.start L hp3 (by have := HK3.out.size; omega))
 clear hk3 hg3 hp3
 go_wp2_with fail
 refine HL.out.mono ?_
 rintro e w4 ⟨v, rfl, hg, ⟨a, rfl⟩, hb⟩
 have HB4 := aK hb
 have HGL := aK hg
 clear hb hg
 go_wp2_with fail
 refine (new_Variable w4.heap.size _ a (some ⟨n3, 0, none⟩) _ (Blk.new _ _ _)).mono ?_
 rintro e w5 ⟨n, rfl, hn, ⟨s5, hb5⟩, hk5⟩
 have HB5 := aK hb5
 have HK5 := aK hk5
 clear hb5 hk5
 go_wp2_with fail
 have hbb := made_two HB4.out HK5.out
 have hb45 := made_below HK5.out
 have hLn : L ≤ n := by have h1 := HK3.out.size; have h2 := HB4.out.size; omega
 refine bodyPost_ret (v := .tuple #[.pointer (some ⟨n, 0, none⟩), .nilIface]) (by simp [results, Tryz.results114, go_sem]) rfl ⟨n, rfl, fun k => ⟨n, _, .of_blk HB5.out hLn rfl (by decide), st_gloc HGL.out hb45, .inl ⟨rfl, _, _, .of_blk HB5.out hLn rfl (by decide), st_gname HG3.out hbb, rfl⟩⟩, HK3.out.then hbb, HP3.out.below hbb⟩
theorem var_no (E : At) (w : World) (t : Tok) (hP : PS E w t) (h : nVar (E.lx) t = none) :
  Calls Tryz.prog 114 #[.pointer (some ⟨E.pb, 0, none⟩)] w fun e w' => PErr E w (.pointer none) e w' := by
 replace h : mVar (E.lx) t = none := by rw [← p_var t, h]; rfl
 unfold mVar at h
 cases h1 : mTok (E.lx) 3 t with
 | none =>
  have HX := aK (expect_none E w t 3 hP h1)
  obtain ⟨c1, c2, c3, c4, c5, c6, c7, c8⟩ := ps_cells hP
  clear hP h h1 c1 c2 c3 c4 c5 c7 c8
  go_enter Tryz.func114, Tryz.ntmps114
  go_wp2_with fail
  refine HX.out.mono ?_
  rintro e w2 ⟨⟨g, rfl⟩, hk⟩
  have HK := aK hk
  clear hk
  go_wp2_with fail
  go_ret2
  exact ⟨⟨g, rfl⟩, HK.out⟩
 | some t1 =>
  rw [h1] at h
  have hn : mName (E.lx) t1 = none := h
  have HX := aK (expect_some E w t t1 3 hP h1)
  have HN := aK (fun W (hp : PS E W t1) => name_no E W t1 hp hn)
  obtain ⟨c1, c2, c3, c4, c5, c6, c7, c8⟩ := ps_cells hP
  clear hP h h1 hn c1 c2 c3 c4 c5 c7 c8
  go_enter Tryz.func114, Tryz.ntmps114
  go_wp2_with fail
  refine HX.out.mono ?_
  rintro e w2 ⟨rfl, hk, hp⟩
  have HK := aK hk
  have HN2 := aK (HN.out w2 hp)
  clear hk hp
  go_wp2_with fail
  refine HN2.out.mono ?_
  rintro e w3 ⟨⟨g, rfl⟩, hk3⟩
  have HK3 := aK (HK.out.trans hk3)
  clear hk3
  go_wp2_with fail
  go_ret2
  exact ⟨⟨g, rfl⟩, HK3.out⟩
theorem unexpected_any (E : At) (w : World) (t : Tok) (hP : PS E w t) :
  Calls Tryz.prog 115 #[.pointer (some ⟨E.pb, 0, none⟩), zeroT] w fun e w' => (∃ g, e = .returned (errV g)) ∧ Below w.heap.size w w' := by
 obtain ⟨c1, c2, c3, c4, c5, c6, c7, c8⟩ := ps_cells hP
 have HA := aK (fun W (h : PS E W t) msg pos => ps_err h msg pos)
 have HP := aK hP
 have hl1 := (ps_lt hP).1
 have hl2 : E.pb < w.heap.size + 1 := by omega
 clear hP c2 c3 c4
 go_enter Tryz.func115, Tryz.ntmps115
 go_upto_region 5 with fail
 go_region_with (go_at_call 76; refine (HA.out (World.drew _) (ps_two HP.out _ _) _ _).mono ?_; rintro e w2 ⟨g, rfl, hb⟩)
 all_goals
  have HB := aK (Below.trans (below_drew (below_alloc (below_alloc (Below.refl w.heap.size w) _) _)) (hb.mono (by show w.heap.size ≤ ((w.alloc _).alloc _).heap.size; simp; omega)))
  clear hb
  go_wp2_with fail
  go_ret
  exact ⟨⟨g, rfl⟩, HB.out⟩
theorem empty_any (E : At) (w : World) (t : Tok) (st k1 k2 : Int) (hP : PS E w t) :
  Calls Tryz.prog 96 #[.pointer (some ⟨E.pb, 0, none⟩), .int .i64 st, .int .i64 k1, .int .i64 k2] w fun e w' => (∃ g, e = .returned (errV g)) ∧ Below w.heap.size w w' := by
 obtain ⟨c1, c2, c3, c4, c5, c6, c7, c8⟩ := ps_cells hP
 have HA := aK (fun msg pos => ps_err hP msg pos)
 clear hP c2 c3 c4 c5 c6 c7 c8
 go_enter Tryz.func96, Tryz.ntmps96
 go_wp2_with fail
 refine (HA.out _ _).mono ?_
 rintro e w2 ⟨g, rfl, hb⟩
 have HB := aK hb
 clear hb
 go_wp2_with fail
 go_ret
 exact ⟨⟨g, rfl⟩, HB.out⟩
end Go.Proofs.YtjoagdldbmlenaaGreatDoor.Par
