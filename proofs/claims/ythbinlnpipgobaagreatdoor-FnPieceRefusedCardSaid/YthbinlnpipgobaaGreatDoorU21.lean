import Derived.Test.YthbinlnpipgobaaGreatDoorU16
import Derived.Deep.RegionWith
namespace Go.Proofs.YthbinlnpipgobaaGreatDoor.Take
set_option linter.unusedVariables false
set_option linter.unusedSimpArgs false
open Go.RowKit Go.Proofs.YthbinlnpipgobaaGreatDoorW.PrintWords Go.Proofs.YthbinlnpipgobaaGreatDoor.Keep Go.Proofs.YthbinlnpipgobaaGreatDoor.Env Go.Proofs.YthbinlnpipgobaaGreatDoor.Ast Go.Proofs.YthbinlnpipgobaaGreatDoor.Tree

/-- What a function of the taker does: it takes ys more. -/
def TkPost (w0 : World) (tb : Nat) (ys : NL) (w : World) (e : Ending) (w' : World) : Prop := e = .returned (.tuple #[]) ∧ Tk w0 tb ys w' ∧ FrT tb w w'
theorem cl2_cell {L : Nat} {w : World} {g i : Nat} {x : Value} (h : Cl2 L w g i x) : w.cell? ⟨g, i, none⟩ = some x := h.2.1
theorem cl_cell {L : Nat} {w : World} {g i : Nat} {x : Value} (h : Cl L w g i x) : w.cell? ⟨g, i, none⟩ = some x := h.2.1
set_option maxRecDepth 100000 in
theorem text_any {L : Nat} {s : ByteArray} {w0 w : World} {v : Value} (h : GName L s w0 v) (hb : Below w0.heap.size w0 w) :
    Calls Tryz.prog 24 #[v] w fun e w' => e = .returned (.string s) ∧ w = w' := by
  obtain ⟨g, rfl, hc⟩ := h
  have c2 := pw_cell_below hb (cl2_cell hc)
  clear hc hb
  unfold ptr
  go_enter Tryz.func24, Tryz.ntmps24
  go_wp2_with fail
  go_ret
  exact ⟨rfl, rfl⟩
set_option maxRecDepth 100000 in
theorem text_nil (w : World) :
    Calls Tryz.prog 24 #[.pointer none] w fun e w' => e = .returned (.string emp) ∧ w = w' := by
  go_enter Tryz.func24, Tryz.ntmps24
  go_wp2_with fail
  go_ret
  exact ⟨rfl, rfl⟩
theorem text_opt {L : Nat} {s : ByteArray} {w0 w : World} {v : Value} (h : GOptT (GName L) s w0 v) (hb : Below w0.heap.size w0 w) :
    Calls Tryz.prog 24 #[v] w fun e w' => e = .returned (.string s) ∧ w = w' := by
  rcases h with ⟨rfl, rfl⟩ | h
  · exact text_nil w
  · exact text_any h hb
set_option maxRecDepth 100000 in
theorem on_any {L : Nat} {s : ByteArray} {w0 w : World} {v : Value} (h : GNamed L s w0 v) (hb : Below w0.heap.size w0 w) :
    Calls Tryz.prog 29 #[v] w fun e w' => e = .returned (.string s) ∧ w = w' := by
  obtain ⟨g, nv, rfl, hc, hn⟩ := h
  have c2 := pw_cell_below hb (cl2_cell hc)
  have HT := Aside0.mk (text_any hn hb)
  obtain ⟨g2, rfl, _⟩ := hn
  clear hc hb
  unfold ptr at *
  go_enter Tryz.func29, Tryz.ntmps29
  go_wp2_with fail
  refine HT.out.mono ?_
  rintro e w1 ⟨rfl, rfl⟩
  go_wp2_with fail
  go_ret
  exact ⟨rfl, rfl⟩
set_option maxRecDepth 100000 in
theorem on_nil (w : World) :
    Calls Tryz.prog 29 #[.pointer none] w fun e w' => e = .returned (.string emp) ∧ w = w' := by
  go_enter Tryz.func29, Tryz.ntmps29
  go_wp2_with fail
  go_ret
  exact ⟨rfl, rfl⟩
theorem on_opt {L : Nat} {s : ByteArray} {w0 w : World} {v : Value} (h : GOptT (GNamed L) s w0 v) (hb : Below w0.heap.size w0 w) :
    Calls Tryz.prog 29 #[v] w fun e w' => e = .returned (.string s) ∧ w = w' := by
  rcases h with ⟨rfl, rfl⟩ | h
  · exact on_nil w
  · exact on_any h hb
end Go.Proofs.YthbinlnpipgobaaGreatDoor.Take
namespace Go.Proofs.YthbinlnpipgobaaGreatDoor.Take
set_option linter.unusedVariables false
set_option linter.unusedSimpArgs false
open Go.RowKit Go.Proofs.YthbinlnpipgobaaGreatDoorW.PrintWords Go.Proofs.YthbinlnpipgobaaGreatDoor.Keep Go.Proofs.YthbinlnpipgobaaGreatDoor.Env Go.Proofs.YthbinlnpipgobaaGreatDoor.Ast Go.Proofs.YthbinlnpipgobaaGreatDoor.Tree

theorem tv_0_0 (v : Value) (W : World) : (Instr.typeAssert (.iface 123 v) 127 123 true).run Tryz.prog W = .ok (.tuple #[v, .bool true]) W := by kernel_rfl
theorem tv_1_0 (v : Value) (W : World) : (Instr.typeAssert (.iface 211 v) 127 123 true).run Tryz.prog W = .ok (.tuple #[.pointer none, .bool false]) W := by kernel_rfl
theorem tv_1_1 (v : Value) (W : World) : (Instr.typeAssert (.iface 211 v) 127 211 true).run Tryz.prog W = .ok (.tuple #[v, .bool true]) W := by kernel_rfl
theorem tv_2_0 (v : Value) (W : World) : (Instr.typeAssert (.iface 213 v) 127 123 true).run Tryz.prog W = .ok (.tuple #[.pointer none, .bool false]) W := by kernel_rfl
theorem tv_2_1 (v : Value) (W : World) : (Instr.typeAssert (.iface 213 v) 127 211 true).run Tryz.prog W = .ok (.tuple #[.pointer none, .bool false]) W := by kernel_rfl
theorem tv_2_2 (v : Value) (W : World) : (Instr.typeAssert (.iface 213 v) 127 213 true).run Tryz.prog W = .ok (.tuple #[v, .bool true]) W := by kernel_rfl
theorem tv_3_0 (v : Value) (W : World) : (Instr.typeAssert (.iface 154 v) 127 123 true).run Tryz.prog W = .ok (.tuple #[.pointer none, .bool false]) W := by kernel_rfl
theorem tv_3_1 (v : Value) (W : World) : (Instr.typeAssert (.iface 154 v) 127 211 true).run Tryz.prog W = .ok (.tuple #[.pointer none, .bool false]) W := by kernel_rfl
theorem tv_3_2 (v : Value) (W : World) : (Instr.typeAssert (.iface 154 v) 127 213 true).run Tryz.prog W = .ok (.tuple #[.pointer none, .bool false]) W := by kernel_rfl
theorem tv_3_3 (v : Value) (W : World) : (Instr.typeAssert (.iface 154 v) 127 154 true).run Tryz.prog W = .ok (.tuple #[v, .bool true]) W := by kernel_rfl
theorem tv_4_0 (v : Value) (W : World) : (Instr.typeAssert (.iface 216 v) 127 123 true).run Tryz.prog W = .ok (.tuple #[.pointer none, .bool false]) W := by kernel_rfl
theorem tv_4_1 (v : Value) (W : World) : (Instr.typeAssert (.iface 216 v) 127 211 true).run Tryz.prog W = .ok (.tuple #[.pointer none, .bool false]) W := by kernel_rfl
theorem tv_4_2 (v : Value) (W : World) : (Instr.typeAssert (.iface 216 v) 127 213 true).run Tryz.prog W = .ok (.tuple #[.pointer none, .bool false]) W := by kernel_rfl
theorem tv_4_3 (v : Value) (W : World) : (Instr.typeAssert (.iface 216 v) 127 154 true).run Tryz.prog W = .ok (.tuple #[.pointer none, .bool false]) W := by kernel_rfl
theorem tv_4_4 (v : Value) (W : World) : (Instr.typeAssert (.iface 216 v) 127 216 true).run Tryz.prog W = .ok (.tuple #[v, .bool true]) W := by kernel_rfl
theorem tv_5_0 (v : Value) (W : World) : (Instr.typeAssert (.iface 219 v) 127 123 true).run Tryz.prog W = .ok (.tuple #[.pointer none, .bool false]) W := by kernel_rfl
theorem tv_5_1 (v : Value) (W : World) : (Instr.typeAssert (.iface 219 v) 127 211 true).run Tryz.prog W = .ok (.tuple #[.pointer none, .bool false]) W := by kernel_rfl
theorem tv_5_2 (v : Value) (W : World) : (Instr.typeAssert (.iface 219 v) 127 213 true).run Tryz.prog W = .ok (.tuple #[.pointer none, .bool false]) W := by kernel_rfl
theorem tv_5_3 (v : Value) (W : World) : (Instr.typeAssert (.iface 219 v) 127 154 true).run Tryz.prog W = .ok (.tuple #[.pointer none, .bool false]) W := by kernel_rfl
theorem tv_5_4 (v : Value) (W : World) : (Instr.typeAssert (.iface 219 v) 127 216 true).run Tryz.prog W = .ok (.tuple #[.pointer none, .bool false]) W := by kernel_rfl
theorem tv_5_5 (v : Value) (W : World) : (Instr.typeAssert (.iface 219 v) 127 219 true).run Tryz.prog W = .ok (.tuple #[v, .bool true]) W := by kernel_rfl
theorem tv_6_0 (v : Value) (W : World) : (Instr.typeAssert (.iface 221 v) 127 123 true).run Tryz.prog W = .ok (.tuple #[.pointer none, .bool false]) W := by kernel_rfl
theorem tv_6_1 (v : Value) (W : World) : (Instr.typeAssert (.iface 221 v) 127 211 true).run Tryz.prog W = .ok (.tuple #[.pointer none, .bool false]) W := by kernel_rfl
theorem tv_6_2 (v : Value) (W : World) : (Instr.typeAssert (.iface 221 v) 127 213 true).run Tryz.prog W = .ok (.tuple #[.pointer none, .bool false]) W := by kernel_rfl
theorem tv_6_3 (v : Value) (W : World) : (Instr.typeAssert (.iface 221 v) 127 154 true).run Tryz.prog W = .ok (.tuple #[.pointer none, .bool false]) W := by kernel_rfl
theorem tv_6_4 (v : Value) (W : World) : (Instr.typeAssert (.iface 221 v) 127 216 true).run Tryz.prog W = .ok (.tuple #[.pointer none, .bool false]) W := by kernel_rfl
theorem tv_6_5 (v : Value) (W : World) : (Instr.typeAssert (.iface 221 v) 127 219 true).run Tryz.prog W = .ok (.tuple #[.pointer none, .bool false]) W := by kernel_rfl
theorem tv_6_6 (v : Value) (W : World) : (Instr.typeAssert (.iface 221 v) 127 221 true).run Tryz.prog W = .ok (.tuple #[v, .bool true]) W := by kernel_rfl
theorem tv_7_0 (v : Value) (W : World) : (Instr.typeAssert (.iface 225 v) 127 123 true).run Tryz.prog W = .ok (.tuple #[.pointer none, .bool false]) W := by kernel_rfl
theorem tv_7_1 (v : Value) (W : World) : (Instr.typeAssert (.iface 225 v) 127 211 true).run Tryz.prog W = .ok (.tuple #[.pointer none, .bool false]) W := by kernel_rfl
theorem tv_7_2 (v : Value) (W : World) : (Instr.typeAssert (.iface 225 v) 127 213 true).run Tryz.prog W = .ok (.tuple #[.pointer none, .bool false]) W := by kernel_rfl
theorem tv_7_3 (v : Value) (W : World) : (Instr.typeAssert (.iface 225 v) 127 154 true).run Tryz.prog W = .ok (.tuple #[.pointer none, .bool false]) W := by kernel_rfl
theorem tv_7_4 (v : Value) (W : World) : (Instr.typeAssert (.iface 225 v) 127 216 true).run Tryz.prog W = .ok (.tuple #[.pointer none, .bool false]) W := by kernel_rfl
theorem tv_7_5 (v : Value) (W : World) : (Instr.typeAssert (.iface 225 v) 127 219 true).run Tryz.prog W = .ok (.tuple #[.pointer none, .bool false]) W := by kernel_rfl
theorem tv_7_6 (v : Value) (W : World) : (Instr.typeAssert (.iface 225 v) 127 221 true).run Tryz.prog W = .ok (.tuple #[.pointer none, .bool false]) W := by kernel_rfl
theorem tv_7_7 (v : Value) (W : World) : (Instr.typeAssert (.iface 225 v) 127 225 true).run Tryz.prog W = .ok (.tuple #[v, .bool true]) W := by kernel_rfl
theorem ts_0_0 (v : Value) (W : World) : (Instr.typeAssert (.iface 235 v) 143 235 true).run Tryz.prog W = .ok (.tuple #[v, .bool true]) W := by kernel_rfl
theorem ts_1_0 (v : Value) (W : World) : (Instr.typeAssert (.iface 238 v) 143 235 true).run Tryz.prog W = .ok (.tuple #[.pointer none, .bool false]) W := by kernel_rfl
theorem ts_1_1 (v : Value) (W : World) : (Instr.typeAssert (.iface 238 v) 143 238 true).run Tryz.prog W = .ok (.tuple #[v, .bool true]) W := by kernel_rfl
theorem ts_2_0 (v : Value) (W : World) : (Instr.typeAssert (.iface 241 v) 143 235 true).run Tryz.prog W = .ok (.tuple #[.pointer none, .bool false]) W := by kernel_rfl
theorem ts_2_1 (v : Value) (W : World) : (Instr.typeAssert (.iface 241 v) 143 238 true).run Tryz.prog W = .ok (.tuple #[.pointer none, .bool false]) W := by kernel_rfl
theorem ts_2_2 (v : Value) (W : World) : (Instr.typeAssert (.iface 241 v) 143 241 true).run Tryz.prog W = .ok (.tuple #[v, .bool true]) W := by kernel_rfl
theorem td_0_0 (v : Value) (W : World) : (Instr.typeAssert (.iface 83 v) 61 83 true).run Tryz.prog W = .ok (.tuple #[v, .bool true]) W := by kernel_rfl
theorem td_1_0 (v : Value) (W : World) : (Instr.typeAssert (.iface 94 v) 61 83 true).run Tryz.prog W = .ok (.tuple #[.pointer none, .bool false]) W := by kernel_rfl
theorem td_1_1 (v : Value) (W : World) : (Instr.typeAssert (.iface 94 v) 61 94 true).run Tryz.prog W = .ok (.tuple #[v, .bool true]) W := by kernel_rfl
end Go.Proofs.YthbinlnpipgobaaGreatDoor.Take
