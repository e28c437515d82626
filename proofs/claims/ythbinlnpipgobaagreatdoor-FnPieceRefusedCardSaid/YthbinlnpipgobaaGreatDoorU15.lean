import Derived.Test.YthbinlnpipgobaaGreatDoorU14
import Derived.Lib.SlBytesRow
import Derived.Lib.ConvBytes
namespace Go.Proofs.YthbinlnpipgobaaGreatDoor.Par
set_option linter.unusedVariables false
set_option linter.unusedSimpArgs false
open Go.RowKit Go.Proofs.YthbinlnpipgobaaGreatDoorW.PrintWords Go.Proofs.YthbinlnpipgobaaGreatDoor.Keep Go.Proofs.YthbinlnpipgobaaGreatDoor.Mod Go.Proofs.YthbinlnpipgobaaGreatDoor.Sim Go.Proofs.YthbinlnpipgobaaGreatDoor.Four Go.Proofs.YthbinlnpipgobaaGreatDoor.Step Go.Proofs.YthbinlnpipgobaaGreatDoor.Env Go.Proofs.YthbinlnpipgobaaGreatDoor.Err Go.Proofs.YthbinlnpipgobaaGreatDoor.Lx Go.Proofs.YthbinlnpipgobaaGreatDoor.Ast Go.Proofs.YthbinlnpipgobaaGreatDoor.New Go.Proofs.YthbinlnpipgobaaGreatDoor.Tree Go.Proofs.YthbinlnpipgobaaGreatDoor.Fuel

set_option maxRecDepth 100000 in
theorem lex_begin (sb : Nat) (w : World) : Calls Tryz.prog 17 #[.pointer (some ⟨sb, 0, none⟩)] w fun e w' => e = .returned (.func (.func 32) #[] #[.pointer (some ⟨w.heap.size + 1, 0, none⟩), .pointer (some ⟨w.heap.size, 0, none⟩)]) ∧
    w' = (w.alloc (.cells #[.pointer (some ⟨sb, 0, none⟩)] 43)).alloc (.cells #[.int .i64 0] 3) := by
  go_enter Tryz.func17, Tryz.ntmps17
  go_wp2_with fail
  go_ret
  exact ⟨rfl, rfl⟩
/-- A source, where it lies: the body's bytes. -/
structure SrcAt (sb bb cap : Nat) (s : ByteArray) (w : World) : Prop where
  s0 : w.cell? ⟨sb, 0, none⟩ = some (.slice (some ⟨bb, 0, none⟩) s.size cap)
  body : BodyAt w bb s
  plain : Plain s
  size : s.size ≤ 100000
  cap : s.size ≤ cap
  pos : 0 < s.size
theorem SrcAt.lt {sb bb cap : Nat} {s : ByteArray} {w : World} (h : SrcAt sb bb cap s w) : sb < w.heap.size ∧ bb < w.heap.size :=
  ⟨World.block_lt_of_cell? w _ h.s0, World.block_lt_of_cell? w _ (h.body 0 h.pos)⟩
theorem SrcAt.below {sb bb cap : Nat} {s : ByteArray} {w w' : World} (h : SrcAt sb bb cap s w) (hb : Below w.heap.size w w') : SrcAt sb bb cap s w' :=
  ⟨pw_cell_below hb h.s0, h.body.below hb, h.plain, h.size, h.cap, h.pos⟩
/-- The parser has been made, or the first token is refused. -/
def Begun (s : ByteArray) (w : World) (e : Ending) (w' : World) : Prop :=
  (∃ E t, E.s = s ∧ lxOf s 0 = some t ∧ e = .returned (.tuple #[.pointer (some ⟨E.pb, 0, none⟩), .nilIface]) ∧ PS E w' t ∧ E.pb < w'.heap.size ∧ E.qb < w'.heap.size ∧ w.heap.size ≤ E.pb ∧ w.heap.size ≤ E.qb ∧ Below w.heap.size w w') ∨
  (lxOf s 0 = none ∧ (∃ p g, e = .returned (.tuple #[p, errV g])) ∧ Below w.heap.size w w')
theorem begun_yes {sb bb cap : Nat} {s : ByteArray} {w w3 : World} {t : Tok} {v' : Int} (hS : SrcAt sb bb cap s w) (ht : lxOf s 0 = some t) (hl3 : w.heap.size + 3 ≤ w3.heap.size) (hb3 : Below w.heap.size w w3) (hx : w3.cell? ⟨w.heap.size + 1, 0, none⟩ = some (.pointer (some ⟨sb, 0, none⟩))) (hq : Blk w3 (w.heap.size + 2) 3 #[.int .i64 v']) :
    Begun s w (.returned (.tuple #[.pointer (some ⟨w3.heap.size + 1, 0, none⟩), .nilIface])) ((w3.alloc (.cells #[.int .i64 t.kind, .int .i64 t.start, .int .i64 t.stop, .string t.value] 68)).alloc (.cells #[.func (.func 32) #[] #[.pointer (some ⟨w.heap.size + 1 + 1, 0, none⟩), .pointer (some ⟨w.heap.size + 1, 0, none⟩)], .pointer (some ⟨sb, 0, none⟩), .bool false, .bool false, .int .i64 0, .int .i64 t.kind, .int .i64 t.start, .int .i64 t.stop, .string t.value] 71)) := by
  have hlt := hS.lt
  have hpos := hS.pos
  have hkp : Below w3.heap.size w3 ((w3.alloc (.cells #[.int .i64 t.kind, .int .i64 t.start, .int .i64 t.stop, .string t.value] 68)).alloc (.cells #[.func (.func 32) #[] #[.pointer (some ⟨w.heap.size + 1 + 1, 0, none⟩), .pointer (some ⟨w.heap.size + 1, 0, none⟩)], .pointer (some ⟨sb, 0, none⟩), .bool false, .bool false, .int .i64 0, .int .i64 t.kind, .int .i64 t.start, .int .i64 t.stop, .string t.value] 71)) := below_alloc (below_alloc (Below.refl _ _) _) _
  have hP := Blk.new (w3.alloc (.cells #[.int .i64 t.kind, .int .i64 t.start, .int .i64 t.stop, .string t.value] 68)) 71 #[.func (.func 32) #[] #[.pointer (some ⟨w.heap.size + 1 + 1, 0, none⟩), .pointer (some ⟨w.heap.size + 1, 0, none⟩)], .pointer (some ⟨sb, 0, none⟩), .bool false, .bool false, .int .i64 0, .int .i64 t.kind, .int .i64 t.start, .int .i64 t.stop, .string t.value]
  simp only [World.size_alloc] at hP
  have hkq := hb3.trans (hkp.mono hb3.size)
  refine .inl ⟨⟨w3.heap.size + 1, w.heap.size + 2, w.heap.size + 1, sb, bb, cap, s⟩, t, rfl, ht, rfl, ⟨⟨0, hP⟩, ⟨v', Blk.below hq hkp hq.lt⟩, ⟨pw_cell_below hkp hx, pw_cell_below hkq hS.s0, hS.body.below hkq, hS.plain, hS.size, hS.cap⟩, ⟨by show w.heap.size + 1 ≠ w3.heap.size + 1; omega, by show w.heap.size + 1 ≠ w.heap.size + 2; omega, by show sb ≠ w3.heap.size + 1; omega, by show sb ≠ w.heap.size + 2; omega, by show bb ≠ w3.heap.size + 1; omega, by show bb ≠ w.heap.size + 2; omega, by show w3.heap.size + 1 ≠ w.heap.size + 2; omega⟩, ?_, ?_, ⟨0, Nat.zero_le _, ht⟩⟩, by simp, by simp; omega, by show w.heap.size ≤ w3.heap.size + 1; omega, by show w.heap.size ≤ w.heap.size + 2; omega, hkq⟩
  · rcases lx_prog (Nat.zero_le _) ht with ⟨_, h⟩ | ⟨_, h1, h2⟩
    · show t.stop ≤ s.size; omega
    · exact h2
  · rcases lx_prog (Nat.zero_le _) ht with ⟨_, h⟩ | ⟨_, h1, h2⟩
    · show 0 < t.stop; omega
    · show 0 < t.stop; omega
set_option maxRecDepth 100000 in
set_option maxHeartbeats 8000000 in
theorem begin_any (sb bb cap : Nat) (s : ByteArray) (w : World) (hS : SrcAt sb bb cap s w) :
    Calls Tryz.prog 12 #[.pointer (some ⟨sb, 0, none⟩), .agg #[.bool false, .bool false]] w (Begun s w) := by
  have hlt := hS.lt
  have HLX := Aside0.mk (fun W (hb : Below w.heap.size w W) (hx : W.cell? ⟨w.heap.size + 1, 0, none⟩ = some (.pointer (some ⟨sb, 0, none⟩))) (hq : Blk W (w.heap.size + 2) 3 #[.int .i64 0]) =>
    lex_any ⟨w.heap.size + 3, w.heap.size + 2, w.heap.size + 1, sb, bb, cap, s⟩ W 0 0 ⟨hx, pw_cell_below hb hS.s0, hS.body.below hb, hS.plain, hS.size, hS.cap⟩ (Nat.zero_le _) hq (.inr rfl) ⟨by show w.heap.size + 1 ≠ w.heap.size + 3; omega, by show w.heap.size + 1 ≠ w.heap.size + 2; omega, by show sb ≠ w.heap.size + 3; omega, by show sb ≠ w.heap.size + 2; omega, by show bb ≠ w.heap.size + 3; omega, by show bb ≠ w.heap.size + 2; omega, by show w.heap.size + 3 ≠ w.heap.size + 2; omega⟩)
  have HS := Aside0.mk hS
  clear hS
  go_enter Tryz.func12, Tryz.ntmps12
  go_wp2_with fail
  refine (lex_begin sb _).mono ?_
  rintro e w2 ⟨rfl, rfl⟩
  go_wp2_with fail
  have hB0 := Blk.new w 35 #[.bool false, .bool false]
  have hx0 := Blk.new (w.alloc (.cells #[.bool false, .bool false] 35)) 43 #[.pointer (some ⟨sb, 0, none⟩)]
  have hq0 := Blk.new ((w.alloc (.cells #[.bool false, .bool false] 35)).alloc (.cells #[.pointer (some ⟨sb, 0, none⟩)] 43)) 3 #[.int .i64 0]
  have hb0 : Below w.heap.size w (((w.alloc (.cells #[.bool false, .bool false] 35)).alloc (.cells #[.pointer (some ⟨sb, 0, none⟩)] 43)).alloc (.cells #[.int .i64 0] 3)) := below_alloc (below_alloc (below_alloc (Below.refl _ _) _) _) _
  replace hB0 := (hB0.alloc (.cells #[.pointer (some ⟨sb, 0, none⟩)] 43)).alloc (.cells #[.int .i64 0] 3)
  replace hx0 := hx0.alloc (.cells #[.int .i64 0] 3)
  have hsz0 : (((w.alloc (.cells #[.bool false, .bool false] 35)).alloc (.cells #[.pointer (some ⟨sb, 0, none⟩)] 43)).alloc (.cells #[.int .i64 0] 3)).heap.size = w.heap.size + 3 := by simp
  generalize (((w.alloc (.cells #[.bool false, .bool false] 35)).alloc (.cells #[.pointer (some ⟨sb, 0, none⟩)] 43)).alloc (.cells #[.int .i64 0] 3)) = W at *
  simp only [World.size_alloc] at hx0 hq0
  refine (HLX.out W hb0 ((hx0.cell 0).trans rfl) hq0).mono ?_
  rintro e w3 ⟨hk, ⟨v', hv'⟩, h⟩
  have o0 : w3.cell? ⟨w.heap.size, 0, none⟩ = some (.bool false) := hk.cell ((hB0.cell 0).trans rfl) (by show w.heap.size ≠ w.heap.size + 2; omega) (by show w.heap.size ≠ w.heap.size + 2; omega)
  have o1 : w3.cell? ⟨w.heap.size, 1, none⟩ = some (.bool false) := hk.cell ((hB0.cell 1).trans rfl) (by show w.heap.size ≠ w.heap.size + 2; omega) (by show w.heap.size ≠ w.heap.size + 2; omega)
  have x3 : w3.cell? ⟨w.heap.size + 1, 0, none⟩ = some (.pointer (some ⟨sb, 0, none⟩)) := hk.cell ((hx0.cell 0).trans rfl) (by show w.heap.size + 1 ≠ w.heap.size + 2; omega) (by show w.heap.size + 1 ≠ w.heap.size + 2; omega)
  have hsz3 := hk.size
  have hb3 : Below w.heap.size w w3 := hb0.trans (hk.below (by omega) (by show w.heap.size ≤ w.heap.size + 2; omega) (by show w.heap.size ≤ w.heap.size + 2; omega))
  have hl3 : w.heap.size + 3 ≤ w3.heap.size := by omega
  have hl30 : w.heap.size < w3.heap.size := by omega
  have hne3 : ¬ w.heap.size = w3.heap.size := by omega
  have HB3 := Aside0.mk hb3
  have HX3 := Aside0.mk x3
  have HV3 := Aside0.mk hv'
  clear hk hB0 hx0 hq0 hb0 hb3 x3 hv'
  rcases h with ⟨t, ht, rfl⟩ | ⟨hn, g, rfl⟩
  · have HT := Aside0.mk ht
    clear ht
    go_wp2_with fail
    refine bodyPost_ret (v := .tuple #[.pointer (some ⟨w3.heap.size + 1, 0, none⟩), .nilIface]) (by simp [results, Tryz.results12, go_sem]) rfl (begun_yes HS.out HT.out hl3 HB3.out HX3.out HV3.out)
  · have HT := Aside0.mk hn
    clear hn
    go_wp2_with fail
    go_ret2
    exact .inr ⟨HT.out, ⟨_, g, rfl⟩, below_alloc (below_alloc HB3.out _) _⟩
end Go.Proofs.YthbinlnpipgobaaGreatDoor.Par
namespace Go.Proofs.YthbinlnpipgobaaGreatDoor.Par
set_option linter.unusedVariables false
set_option linter.unusedSimpArgs false
open Go.RowKit Go.Proofs.YthbinlnpipgobaaGreatDoorW.PrintWords Go.Proofs.YthbinlnpipgobaaGreatDoor.Keep Go.Proofs.YthbinlnpipgobaaGreatDoor.Mod Go.Proofs.YthbinlnpipgobaaGreatDoor.Sim Go.Proofs.YthbinlnpipgobaaGreatDoor.Four Go.Proofs.YthbinlnpipgobaaGreatDoor.Step Go.Proofs.YthbinlnpipgobaaGreatDoor.Env Go.Proofs.YthbinlnpipgobaaGreatDoor.Err Go.Proofs.YthbinlnpipgobaaGreatDoor.Lx Go.Proofs.YthbinlnpipgobaaGreatDoor.Ast Go.Proofs.YthbinlnpipgobaaGreatDoor.New Go.Proofs.YthbinlnpipgobaaGreatDoor.Tree Go.Proofs.YthbinlnpipgobaaGreatDoor.Fuel

set_option maxRecDepth 100000 in
theorem new_source (g n cap : Nat) (bb : Nat) (w : World) (h : Blk w g 48 #[.slice (some ⟨bb, 0, none⟩) n cap, .string ⟨#[]⟩]) :
    Calls Tryz.prog 11 #[.pointer (some ⟨g, 0, none⟩)] w fun e w' => e = .returned (.pointer (some ⟨g, 0, none⟩)) ∧ ∃ x, w' = w.setCell ⟨g, 1, none⟩ (.string x) := by
  have c0 := (h.cell 0).trans rfl
  have c1 := (h.cell 1).trans rfl
  have z1 := h.frozen 1
  clear h
  go_enter Tryz.func11, Tryz.ntmps11
  go_wp2_with fail
  go_ret
  exact ⟨rfl, _, rfl⟩
theorem ta1 (s : ByteArray) (W : World) : (Instr.typeAssert (.iface 9 (.string s)) 20 43 true).run Tryz.prog W = .ok (.tuple #[.pointer none, .bool false]) W := by kernel_rfl
theorem ta2 (s : ByteArray) (W : World) : (Instr.typeAssert (.iface 9 (.string s)) 20 9 true).run Tryz.prog W = .ok (.tuple #[.string s, .bool true]) W := by kernel_rfl
theorem bytes_body (W : World) (e : TypeId) (s : ByteArray) : BodyAt (Lib.bytesWorld W e s) W.heap.size s := fun j hj => by
  rw [Lib.bytesWorld_cell W e s j hj, bt_nat s j hj]
  have h' : j < s.data.toList.length := by simpa using hj
  rw [List.getD_eq_getElem?_getD, List.getElem?_eq_getElem h']
  rfl
/-- A document has been read, or is refused. -/
def PDone (goal : Option NL) (e : Ending) (w' : World) : Prop :=
  (∃ y v L N, goal = some y ∧ e = .returned (.tuple #[v, .nilIface]) ∧ GDoc L (GDef L N (GSet L N N)) (nd 1 emp emp emp 0 [y]) w' v) ∨ (goal = none ∧ ∃ p g, e = .returned (.tuple #[p, errV g]))
/-- The source behind the conversion of a text. -/
theorem src_made (w : World) (o : Obj) (s : ByteArray) (cap : Nat) (x : ByteArray) (hpl : Plain s) (hsz : s.size ≤ 100000) (hpos : 0 < s.size) (hcap : s.size ≤ cap) :
    SrcAt (w.heap.size + 2) (w.heap.size + 1) cap s (((Lib.bytesWorld (w.alloc o) 5 s).alloc (.cells #[.slice (some ⟨w.heap.size + 1, 0, none⟩) s.size cap, .string ⟨#[]⟩] 48)).setCell ⟨w.heap.size + 2, 1, none⟩ (.string x)) ∧
    Below w.heap.size w (((Lib.bytesWorld (w.alloc o) 5 s).alloc (.cells #[.slice (some ⟨w.heap.size + 1, 0, none⟩) s.size cap, .string ⟨#[]⟩] 48)).setCell ⟨w.heap.size + 2, 1, none⟩ (.string x)) := by
  have h3 := Lib.bytesWorld_size (w.alloc o) 5 s
  have h1 := bytes_body (w.alloc o) 5 s
  have h2 : Below (w.alloc o).heap.size (w.alloc o) (Lib.bytesWorld (w.alloc o) 5 s) := bytes_below (Below.refl _ _) (Nat.le_refl _) _ s
  rw [World.size_alloc] at h1 h2 h3
  generalize Lib.bytesWorld (w.alloc o) 5 s = W at *
  have hb := Blk.new W 48 #[.slice (some ⟨w.heap.size + 1, 0, none⟩) s.size cap, .string ⟨#[]⟩]
  rw [h3] at hb
  have hb2 := hb.set_ 1 (.string x)
  have hB1 : Below W.heap.size W (W.alloc (.cells #[.slice (some ⟨w.heap.size + 1, 0, none⟩) s.size cap, .string ⟨#[]⟩] 48)) := below_alloc (Below.refl _ _) _
  have hB : Below W.heap.size W ((W.alloc (.cells #[.slice (some ⟨w.heap.size + 1, 0, none⟩) s.size cap, .string ⟨#[]⟩] 48)).setCell ⟨w.heap.size + 2, 1, none⟩ (.string x)) := hB1.setCell (p := ⟨w.heap.size + 2, 1, none⟩) (by show W.heap.size ≤ w.heap.size + 2; omega) _
  refine ⟨⟨(hb2.cell 0).trans rfl, fun j hj => pw_cell_below hB (h1 j hj), hpl, hsz, hcap, hpos⟩, ?_⟩
  have hw : Below w.heap.size w (w.alloc o) := below_alloc (Below.refl _ _) _
  have h2' : Below w.heap.size (w.alloc o) W := h2.mono (by omega)
  exact (hw.trans h2').trans (hB.mono (by omega))
set_option maxRecDepth 100000 in
set_option maxHeartbeats 8000000 in
theorem parse_any (s : ByteArray) (w : World) (t : Tok) (goal : Option NL) (hpl : Plain s) (hsz : s.size ≤ 100000) (hpos : 0 < s.size) (ht : lxOf s 0 = some t)
    (hD : ∀ E W, E.s = s → PS E W t → E.pb < W.heap.size → E.qb < W.heap.size → Calls Tryz.prog 13 #[.pointer (some ⟨E.pb, 0, none⟩)] W fun e w' => PDone goal e w' ∧ Keeps E.pb E.qb W w') :
    Calls Tryz.prog 9 #[.agg #[.iface 9 (.string s), .bool false, .bool false]] w fun e w' => PDone goal e w' ∧ Below w.heap.size w w' := by
  have h1 := ta1 s
  have h2 := ta2 s
  have kb := fun W => print_bytes (P := Tryz.prog) 9 46 5 Tryz.underlying9 Tryz.underlying46 Tryz.underlying5 s W
  have HSM := Aside0.mk (fun o cap x hc => src_made w o s cap x hpl hsz hpos hc)
  have HT := Aside0.mk ht
  have HD := Aside0.mk hD
  clear hpl hsz hpos ht hD
  go_enter Tryz.func9, Tryz.ntmps9
  go_wp2_with fail
  have hcap := grownCap_ge (w.alloc (.cells #[.iface 9 (.string s), .bool false, .bool false] 37)) s.size 0 5
  generalize grownCap (w.alloc (.cells #[.iface 9 (.string s), .bool false, .bool false] 37)) s.size 0 5 = cap at *
  have hW3 := Lib.bytesWorld_size (w.alloc (.cells #[.iface 9 (.string s), .bool false, .bool false] 37)) 5 s
  rw [World.size_alloc] at hW3
  have hB3 : Below (w.alloc (.cells #[.iface 9 (.string s), .bool false, .bool false] 37)).heap.size (w.alloc (.cells #[.iface 9 (.string s), .bool false, .bool false] 37)) (Lib.bytesWorld (w.alloc (.cells #[.iface 9 (.string s), .bool false, .bool false] 37)) 5 s) := bytes_below (Below.refl _ _) (Nat.le_refl _) _ s
  have hpb := (Blk.new w 37 #[.iface 9 (.string s), .bool false, .bool false]).below hB3 (by simp)
  have HSMO := Aside0.mk (HSM.out (.cells #[.iface 9 (.string s), .bool false, .bool false] 37) cap)
  generalize Lib.bytesWorld (w.alloc (.cells #[.iface 9 (.string s), .bool false, .bool false] 37)) 5 s = W2 at *
  refine (new_source W2.heap.size s.size cap (w.heap.size + 1) _ (Blk.new _ _ _)).mono ?_
  rintro e w4 ⟨rfl, x, rfl⟩
  have hW4 : W2.heap.size = w.heap.size + 2 := hW3
  have hpb2 := (hpb.alloc (.cells #[.slice (some ⟨w.heap.size + 1, 0, none⟩) s.size cap, .string ⟨#[]⟩] 48)).far (p := ⟨w.heap.size + 2, 1, none⟩) (by show w.heap.size ≠ w.heap.size + 2; omega) (.string x)
  obtain ⟨hsrc, hbw⟩ := HSMO.out x hcap
  rw [hW4]
  generalize (W2.alloc (.cells #[.slice (some ⟨w.heap.size + 1, 0, none⟩) s.size cap, .string ⟨#[]⟩] 48)).setCell ⟨w.heap.size + 2, 1, none⟩ (.string x) = W5 at *
  have p1 := (hpb2.cell 1).trans rfl
  have p2 := (hpb2.cell 2).trans rfl
  have HSRC := Aside0.mk hsrc
  have HBW := Aside0.mk hbw
  clear hsrc hbw hpb hpb2 hB3 hW3 hW4 HSMO HSM hcap kb h1 h2
  go_wp2_with fail
  refine (begin_any _ _ cap s W5 HSRC.out).mono ?_
  rintro e w6 (⟨E, t1, hE, ht1, rfl, hps, hl1, hl2, hg1, hg2, hb⟩ | ⟨hn, ⟨p, g, rfl⟩, hb⟩)
  · have ht2 := HT.out
    rw [ht1] at ht2
    obtain rfl := Option.some.inj ht2
    have HDD := Aside0.mk (HD.out E w6 hE hps hl1 hl2)
    have HB6 := Aside0.mk (⟨hg1, hg2, hb⟩ : W5.heap.size ≤ E.pb ∧ W5.heap.size ≤ E.qb ∧ Below W5.heap.size W5 w6)
    clear hE ht1 hps hl1 hl2 hg1 hg2 hb ht2
    go_wp2_with fail
    refine HDD.out.mono ?_
    rintro e w7 ⟨hp, hk⟩
    have HK := Aside0.mk hk
    have hbb : Below w.heap.size w w7 := by
      have a := HBW.out.trans (HB6.out.2.2.mono HBW.out.size)
      have hs := HBW.out.size
      exact a.trans (HK.out.below a.size (by have := HB6.out.1; omega) (by have := HB6.out.2.1; omega))
    have HBB := Aside0.mk hbb
    clear hk hbb
    rcases hp with ⟨y, v, L, N, hy, rfl, hg⟩ | ⟨hy, p, g, rfl⟩
    · have HR := Aside0.mk (⟨hy, hg⟩ : goal = some y ∧ GDoc L (GDef L N (GSet L N N)) (nd 1 emp emp emp 0 [y]) w7 v)
      clear hy hg
      go_wp2_with fail
      go_ret2
      exact ⟨.inl ⟨y, _, L, N, HR.out.1, rfl, HR.out.2⟩, HBB.out⟩
    · have HR := Aside0.mk hy
      clear hy
      go_wp2_with fail
      go_ret2
      exact ⟨.inr ⟨HR.out, _, g, rfl⟩, HBB.out⟩
  · exact absurd (HT.out.symm.trans hn) (by simp)
end Go.Proofs.YthbinlnpipgobaaGreatDoor.Par
