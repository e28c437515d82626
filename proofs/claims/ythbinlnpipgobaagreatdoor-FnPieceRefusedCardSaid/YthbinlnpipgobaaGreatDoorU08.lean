import Derived.Test.YthbinlnpipgobaaGreatDoorU07
import Derived.StillTailTactics
import Derived.Test.YthbinlnpipgobaaGreatDoorU31
namespace Go.Proofs.YthbinlnpipgobaaGreatDoor.New
set_option linter.unusedVariables false
set_option linter.unusedSimpArgs false
open Go.RowKit Go.Proofs.YthbinlnpipgobaaGreatDoorW.PrintWords Go.Proofs.YthbinlnpipgobaaGreatDoor.Keep Go.Proofs.YthbinlnpipgobaaGreatDoor.Env Go.Proofs.YthbinlnpipgobaaGreatDoor.Par

set_option maxRecDepth 100000 in
set_option maxHeartbeats 2000000 in
theorem new_Name (g : Nat) (x0 : ByteArray) (x1 : Option Addr) (x2 : ByteArray) (w : World) (h : Blk w g 121 #[.string x0, .pointer x1, .string x2]) :
    Calls Tryz.prog 78 #[.pointer (some ⟨g, 0, none⟩)] w fun e w' => ∃ n, e = .returned (.pointer (some ⟨n, 0, none⟩)) ∧ g ≤ n ∧ (∃ s, Blk w' n 121 #[.string s, .pointer x1, .string x2]) ∧ Keeps g g w w' := by
  have c0 := (h.cell 0).trans rfl
  have c1 := (h.cell 1).trans rfl
  have c2 := (h.cell 2).trans rfl
  have z0 := h.frozen 0
  have hl := h.lt
  have H := Aside0.mk h
  clear h
  go_enter Tryz.func78, Tryz.ntmps78
  go_wp2_with fail
  go_ret
  exact ⟨g, rfl, Nat.le_refl _, ⟨_, H.out.set_ 0 _⟩, (Keeps.refl g g w).setP 0 _⟩
set_option maxRecDepth 100000 in
set_option maxHeartbeats 2000000 in
theorem new_Variable (g : Nat) (x0 : ByteArray) (x1 : Option Addr) (x2 : Option Addr) (w : World) (h : Blk w g 131 #[.string x0, .pointer x1, .pointer x2]) :
    Calls Tryz.prog 156 #[.pointer (some ⟨g, 0, none⟩)] w fun e w' => ∃ n, e = .returned (.pointer (some ⟨n, 0, none⟩)) ∧ g ≤ n ∧ (∃ s, Blk w' n 131 #[.string s, .pointer x1, .pointer x2]) ∧ Keeps g g w w' := by
  have c0 := (h.cell 0).trans rfl
  have c1 := (h.cell 1).trans rfl
  have c2 := (h.cell 2).trans rfl
  have z0 := h.frozen 0
  have hl := h.lt
  have H := Aside0.mk h
  clear h
  go_enter Tryz.func156, Tryz.ntmps156
  go_wp2_with fail
  go_ret
  exact ⟨g, rfl, Nat.le_refl _, ⟨_, H.out.set_ 0 _⟩, (Keeps.refl g g w).setP 0 _⟩
set_option maxRecDepth 100000 in
set_option maxHeartbeats 2000000 in
theorem new_Named (g : Nat) (x0 : ByteArray) (x1 : Option Addr) (x2 : Option Addr) (w : World) (h : Blk w g 145 #[.string x0, .pointer x1, .pointer x2]) :
    Calls Tryz.prog 167 #[.pointer (some ⟨g, 0, none⟩)] w fun e w' => ∃ n, e = .returned (.pointer (some ⟨n, 0, none⟩)) ∧ g ≤ n ∧ (∃ s, Blk w' n 145 #[.string s, .pointer x1, .pointer x2]) ∧ Keeps g g w w' := by
  have c0 := (h.cell 0).trans rfl
  have c1 := (h.cell 1).trans rfl
  have c2 := (h.cell 2).trans rfl
  have z0 := h.frozen 0
  have hl := h.lt
  have H := Aside0.mk h
  clear h
  go_enter Tryz.func167, Tryz.ntmps167
  go_wp2_with fail
  go_ret
  exact ⟨g, rfl, Nat.le_refl _, ⟨_, H.out.set_ 0 _⟩, (Keeps.refl g g w).setP 0 _⟩
set_option maxRecDepth 100000 in
set_option maxHeartbeats 2000000 in
theorem new_Argument (g : Nat) (x0 : ByteArray) (x1 : Option Addr) (x2 : Option Addr) (x3t : TypeId) (x3v : Value) (w : World) (h : Blk w g 234 #[.string x0, .pointer x1, .pointer x2, .iface x3t x3v]) :
    Calls Tryz.prog 187 #[.pointer (some ⟨g, 0, none⟩)] w fun e w' => ∃ n, e = .returned (.pointer (some ⟨n, 0, none⟩)) ∧ g ≤ n ∧ (∃ s, Blk w' n 234 #[.string s, .pointer x1, .pointer x2, .iface x3t x3v]) ∧ Keeps g g w w' := by
  have c0 := (h.cell 0).trans rfl
  have c1 := (h.cell 1).trans rfl
  have c2 := (h.cell 2).trans rfl
  have c3 := (h.cell 3).trans rfl
  have z0 := h.frozen 0
  have hl := h.lt
  have H := Aside0.mk h
  clear h
  go_enter Tryz.func187, Tryz.ntmps187
  go_wp2_with fail
  go_ret
  exact ⟨g, rfl, Nat.le_refl _, ⟨_, H.out.set_ 0 _⟩, (Keeps.refl g g w).setP 0 _⟩
set_option maxRecDepth 100000 in
set_option maxHeartbeats 2000000 in
theorem new_Field (g : Nat) (x0 : ByteArray) (x1 : Option Addr) (x2 : Option Addr) (x3 : Option Addr) (x4a : Option Addr) (x4n x4c : Nat) (x5a : Option Addr) (x5n x5c : Nat) (x6 : Option Addr) (w : World) (h : Blk w g 237 #[.string x0, .pointer x1, .pointer x2, .pointer x3, .slice x4a x4n x4c, .slice x5a x5n x5c, .pointer x6]) :
    Calls Tryz.prog 155 #[.pointer (some ⟨g, 0, none⟩)] w fun e w' => ∃ n, e = .returned (.pointer (some ⟨n, 0, none⟩)) ∧ g ≤ n ∧ (∃ s, Blk w' n 237 #[.string s, .pointer x1, .pointer x2, .pointer x3, .slice x4a x4n x4c, .slice x5a x5n x5c, .pointer x6]) ∧ Keeps g g w w' := by
  have c0 := (h.cell 0).trans rfl
  have c1 := (h.cell 1).trans rfl
  have c2 := (h.cell 2).trans rfl
  have c3 := (h.cell 3).trans rfl
  have c4 := (h.cell 4).trans rfl
  have c5 := (h.cell 5).trans rfl
  have c6 := (h.cell 6).trans rfl
  have z0 := h.frozen 0
  have hl := h.lt
  have H := Aside0.mk h
  clear h
  go_enter Tryz.func155, Tryz.ntmps155
  go_wp2_with fail
  go_ret
  exact ⟨g, rfl, Nat.le_refl _, ⟨_, H.out.set_ 0 _⟩, (Keeps.refl g g w).setP 0 _⟩
set_option maxRecDepth 100000 in
set_option maxHeartbeats 2000000 in
theorem new_SelectionSet (g : Nat) (x0 : ByteArray) (x1 : Option Addr) (x2a : Option Addr) (x2n x2c : Nat) (w : World) (h : Blk w g 141 #[.string x0, .pointer x1, .slice x2a x2n x2c]) :
    Calls Tryz.prog 76 #[.pointer (some ⟨g, 0, none⟩)] w fun e w' => ∃ n, e = .returned (.pointer (some ⟨n, 0, none⟩)) ∧ g ≤ n ∧ (∃ s, Blk w' n 141 #[.string s, .pointer x1, .slice x2a x2n x2c]) ∧ Keeps g g w w' := by
  have c0 := (h.cell 0).trans rfl
  have c1 := (h.cell 1).trans rfl
  have c2 := (h.cell 2).trans rfl
  have z0 := h.frozen 0
  have hl := h.lt
  have H := Aside0.mk h
  clear h
  go_enter Tryz.func76, Tryz.ntmps76
  go_wp2_with fail
  go_ret
  exact ⟨g, rfl, Nat.le_refl _, ⟨_, H.out.set_ 0 _⟩, (Keeps.refl g g w).setP 0 _⟩
set_option maxRecDepth 100000 in
set_option maxHeartbeats 2000000 in
theorem new_OperationDefinition (g : Nat) (x0 : ByteArray) (x1 : Option Addr) (x2 : ByteArray) (x3 : Option Addr) (x4a : Option Addr) (x4n x4c : Nat) (x5a : Option Addr) (x5n x5c : Nat) (x6 : Option Addr) (w : World) (h : Blk w g 89 #[.string x0, .pointer x1, .string x2, .pointer x3, .slice x4a x4n x4c, .slice x5a x5n x5c, .pointer x6]) :
    Calls Tryz.prog 37 #[.pointer (some ⟨g, 0, none⟩)] w fun e w' => ∃ n, e = .returned (.pointer (some ⟨n, 0, none⟩)) ∧ g ≤ n ∧ (∃ s, Blk w' n 89 #[.string s, .pointer x1, .string x2, .pointer x3, .slice x4a x4n x4c, .slice x5a x5n x5c, .pointer x6]) ∧ Keeps g g w w' := by
  have c0 := (h.cell 0).trans rfl
  have c1 := (h.cell 1).trans rfl
  have c2 := (h.cell 2).trans rfl
  have c3 := (h.cell 3).trans rfl
  have c4 := (h.cell 4).trans rfl
  have c5 := (h.cell 5).trans rfl
  have c6 := (h.cell 6).trans rfl
  have z0 := h.frozen 0
  have hl := h.lt
  have H := Aside0.mk h
  clear h
  go_enter Tryz.func37, Tryz.ntmps37
  go_wp2_with fail
  go_ret
  exact ⟨g, rfl, Nat.le_refl _, ⟨_, H.out.set_ 0 _⟩, (Keeps.refl g g w).setP 0 _⟩
end Go.Proofs.YthbinlnpipgobaaGreatDoor.New
namespace Go.Proofs.YthbinlnpipgobaaGreatDoor.New
set_option linter.unusedVariables false
set_option linter.unusedSimpArgs false
open Go.RowKit Go.Proofs.YthbinlnpipgobaaGreatDoorW.PrintWords Go.Proofs.YthbinlnpipgobaaGreatDoor.Keep Go.Proofs.YthbinlnpipgobaaGreatDoor.Env Go.Proofs.YthbinlnpipgobaaGreatDoor.Par

set_option maxRecDepth 100000 in
set_option maxHeartbeats 2000000 in
theorem new_Location (g : Nat)  (x1 : Int) (x2 : Int) (x3 : Option Addr) (w : World) (h : Blk w g 81 #[.int .i64 x1, .int .i64 x2, .pointer x3]) :
    Calls Tryz.prog 46 #[.pointer (some ⟨g, 0, none⟩)] w fun e w' => ∃ n, e = .returned (.pointer (some ⟨n, 0, none⟩)) ∧ g ≤ n ∧ (Blk w' n 81 #[.int .i64 x1, .int .i64 x2, .pointer x3]) ∧ Keeps g g w w' := by
  have c0 := (h.cell 0).trans rfl
  have c1 := (h.cell 1).trans rfl
  have c2 := (h.cell 2).trans rfl
  have z0 := h.frozen 0
  have hl := h.lt
  have H := Aside0.mk h
  clear h
  go_enter Tryz.func46, Tryz.ntmps46
  go_wp2_with fail
  go_region
  all_goals
    go_wp2_with fail
    go_ret
    exact ⟨w.heap.size, rfl, by omega, Blk.new _ _ _, ((Keeps.refl g g w).drew).alloc _⟩
set_option maxRecDepth 100000 in
set_option maxHeartbeats 2000000 in
theorem new_IntValue (g : Nat) (x0 : ByteArray) (x1 : Option Addr) (x2 : ByteArray) (w : World) (h : Blk w g 212 #[.string x0, .pointer x1, .string x2]) :
    Calls Tryz.prog 161 #[.pointer (some ⟨g, 0, none⟩)] w fun e w' => ∃ n, e = .returned (.pointer (some ⟨n, 0, none⟩)) ∧ g ≤ n ∧ (∃ s, Blk w' n 212 #[.string s, .pointer x1, .string x2]) ∧ Keeps g g w w' := by
  have c0 := (h.cell 0).trans rfl
  have c1 := (h.cell 1).trans rfl
  have c2 := (h.cell 2).trans rfl
  have z0 := h.frozen 0
  have hl := h.lt
  have H := Aside0.mk h
  clear h
  go_enter Tryz.func161, Tryz.ntmps161
  go_wp2_with fail
  go_region
  all_goals
    go_wp2_with fail
    go_ret
    exact ⟨w.heap.size, rfl, by omega, ⟨_, Blk.new _ _ _⟩, ((Keeps.refl g g w).drew).alloc _⟩
set_option maxRecDepth 100000 in
set_option maxHeartbeats 2000000 in
theorem new_FloatValue (g : Nat) (x0 : ByteArray) (x1 : Option Addr) (x2 : ByteArray) (w : World) (h : Blk w g 214 #[.string x0, .pointer x1, .string x2]) :
    Calls Tryz.prog 162 #[.pointer (some ⟨g, 0, none⟩)] w fun e w' => ∃ n, e = .returned (.pointer (some ⟨n, 0, none⟩)) ∧ g ≤ n ∧ (∃ s, Blk w' n 214 #[.string s, .pointer x1, .string x2]) ∧ Keeps g g w w' := by
  have c0 := (h.cell 0).trans rfl
  have c1 := (h.cell 1).trans rfl
  have c2 := (h.cell 2).trans rfl
  have z0 := h.frozen 0
  have hl := h.lt
  have H := Aside0.mk h
  clear h
  go_enter Tryz.func162, Tryz.ntmps162
  go_wp2_with fail
  go_region
  all_goals
    go_wp2_with fail
    go_ret
    exact ⟨w.heap.size, rfl, by omega, ⟨_, Blk.new _ _ _⟩, ((Keeps.refl g g w).drew).alloc _⟩
set_option maxRecDepth 100000 in
set_option maxHeartbeats 2000000 in
theorem new_EnumValue (g : Nat) (x0 : ByteArray) (x1 : Option Addr) (x2 : ByteArray) (w : World) (h : Blk w g 220 #[.string x0, .pointer x1, .string x2]) :
    Calls Tryz.prog 165 #[.pointer (some ⟨g, 0, none⟩)] w fun e w' => ∃ n, e = .returned (.pointer (some ⟨n, 0, none⟩)) ∧ g ≤ n ∧ (∃ s, Blk w' n 220 #[.string s, .pointer x1, .string x2]) ∧ Keeps g g w w' := by
  have c0 := (h.cell 0).trans rfl
  have c1 := (h.cell 1).trans rfl
  have c2 := (h.cell 2).trans rfl
  have z0 := h.frozen 0
  have hl := h.lt
  have H := Aside0.mk h
  clear h
  go_enter Tryz.func165, Tryz.ntmps165
  go_wp2_with fail
  go_region
  all_goals
    go_wp2_with fail
    go_ret
    exact ⟨w.heap.size, rfl, by omega, ⟨_, Blk.new _ _ _⟩, ((Keeps.refl g g w).drew).alloc _⟩
set_option maxRecDepth 100000 in
set_option maxHeartbeats 2000000 in
theorem new_BooleanValue (g : Nat) (x0 : ByteArray) (x1 : Option Addr) (x2 : Bool) (w : World) (h : Blk w g 218 #[.string x0, .pointer x1, .bool x2]) :
    Calls Tryz.prog 164 #[.pointer (some ⟨g, 0, none⟩)] w fun e w' => ∃ n, e = .returned (.pointer (some ⟨n, 0, none⟩)) ∧ g ≤ n ∧ (∃ s, Blk w' n 218 #[.string s, .pointer x1, .bool x2]) ∧ Keeps g g w w' := by
  have c0 := (h.cell 0).trans rfl
  have c1 := (h.cell 1).trans rfl
  have c2 := (h.cell 2).trans rfl
  have z0 := h.frozen 0
  have hl := h.lt
  have H := Aside0.mk h
  clear h
  go_enter Tryz.func164, Tryz.ntmps164
  go_wp2_with fail
  go_region
  all_goals
    go_wp2_with fail
    go_ret
    exact ⟨w.heap.size, rfl, by omega, ⟨_, Blk.new _ _ _⟩, ((Keeps.refl g g w).drew).alloc _⟩
set_option maxRecDepth 100000 in
set_option maxHeartbeats 2000000 in
theorem new_ListValue (g : Nat) (x0 : ByteArray) (x1 : Option Addr) (x2a : Option Addr) (x2n x2c : Nat) (w : World) (h : Blk w g 224 #[.string x0, .pointer x1, .slice x2a x2n x2c]) :
    Calls Tryz.prog 183 #[.pointer (some ⟨g, 0, none⟩)] w fun e w' => ∃ n, e = .returned (.pointer (some ⟨n, 0, none⟩)) ∧ g ≤ n ∧ (∃ s, Blk w' n 224 #[.string s, .pointer x1, .slice x2a x2n x2c]) ∧ Keeps g g w w' := by
  have c0 := (h.cell 0).trans rfl
  have c1 := (h.cell 1).trans rfl
  have c2 := (h.cell 2).trans rfl
  have z0 := h.frozen 0
  have hl := h.lt
  have H := Aside0.mk h
  clear h
  go_enter Tryz.func183, Tryz.ntmps183
  go_wp2_with fail
  go_region
  all_goals
    go_wp2_with fail
    go_ret
    exact ⟨w.heap.size, rfl, by omega, ⟨_, Blk.new _ _ _⟩, ((Keeps.refl g g w).drew).alloc _⟩
set_option maxRecDepth 100000 in
set_option maxHeartbeats 2000000 in
theorem new_Directive (g : Nat) (x0 : ByteArray) (x1 : Option Addr) (x2 : Option Addr) (x3a : Option Addr) (x3n x3c : Nat) (w : World) (h : Blk w g 137 #[.string x0, .pointer x1, .pointer x2, .slice x3a x3n x3c]) :
    Calls Tryz.prog 119 #[.pointer (some ⟨g, 0, none⟩)] w fun e w' => ∃ n, e = .returned (.pointer (some ⟨n, 0, none⟩)) ∧ g ≤ n ∧ (∃ s, Blk w' n 137 #[.string s, .pointer x1, .pointer x2, .slice x3a x3n x3c]) ∧ Keeps g g w w' := by
  have c0 := (h.cell 0).trans rfl
  have c1 := (h.cell 1).trans rfl
  have c2 := (h.cell 2).trans rfl
  have c3 := (h.cell 3).trans rfl
  have z0 := h.frozen 0
  have hl := h.lt
  have H := Aside0.mk h
  clear h
  go_enter Tryz.func119, Tryz.ntmps119
  go_wp2_with fail
  go_region
  all_goals
    go_wp2_with fail
    go_ret
    exact ⟨w.heap.size, rfl, by omega, ⟨_, Blk.new _ _ _⟩, ((Keeps.refl g g w).drew).alloc _⟩
set_option maxRecDepth 100000 in
set_option maxHeartbeats 2000000 in
theorem new_FragmentSpread (g : Nat) (x0 : ByteArray) (x1 : Option Addr) (x2 : Option Addr) (x3a : Option Addr) (x3n x3c : Nat) (w : World) (h : Blk w g 240 #[.string x0, .pointer x1, .pointer x2, .slice x3a x3n x3c]) :
    Calls Tryz.prog 153 #[.pointer (some ⟨g, 0, none⟩)] w fun e w' => ∃ n, e = .returned (.pointer (some ⟨n, 0, none⟩)) ∧ g ≤ n ∧ (∃ s, Blk w' n 240 #[.string s, .pointer x1, .pointer x2, .slice x3a x3n x3c]) ∧ Keeps g g w w' := by
  have c0 := (h.cell 0).trans rfl
  have c1 := (h.cell 1).trans rfl
  have c2 := (h.cell 2).trans rfl
  have c3 := (h.cell 3).trans rfl
  have z0 := h.frozen 0
  have hl := h.lt
  have H := Aside0.mk h
  clear h
  go_enter Tryz.func153, Tryz.ntmps153
  go_wp2_with fail
  go_region
  all_goals
    go_wp2_with fail
    go_ret
    exact ⟨w.heap.size, rfl, by omega, ⟨_, Blk.new _ _ _⟩, ((Keeps.refl g g w).drew).alloc _⟩
set_option maxRecDepth 100000 in
set_option maxHeartbeats 2000000 in
theorem new_InlineFragment (g : Nat) (x0 : ByteArray) (x1 : Option Addr) (x2 : Option Addr) (x3a : Option Addr) (x3n x3c : Nat) (x4 : Option Addr) (w : World) (h : Blk w g 243 #[.string x0, .pointer x1, .pointer x2, .slice x3a x3n x3c, .pointer x4]) :
    Calls Tryz.prog 154 #[.pointer (some ⟨g, 0, none⟩)] w fun e w' => ∃ n, e = .returned (.pointer (some ⟨n, 0, none⟩)) ∧ g ≤ n ∧ (∃ s, Blk w' n 243 #[.string s, .pointer x1, .pointer x2, .slice x3a x3n x3c, .pointer x4]) ∧ Keeps g g w w' := by
  have c0 := (h.cell 0).trans rfl
  have c1 := (h.cell 1).trans rfl
  have c2 := (h.cell 2).trans rfl
  have c3 := (h.cell 3).trans rfl
  have c4 := (h.cell 4).trans rfl
  have z0 := h.frozen 0
  have hl := h.lt
  have H := Aside0.mk h
  clear h
  go_enter Tryz.func154, Tryz.ntmps154
  go_wp2_with fail
  go_region
  all_goals
    go_wp2_with fail
    go_ret
    exact ⟨w.heap.size, rfl, by omega, ⟨_, Blk.new _ _ _⟩, ((Keeps.refl g g w).drew).alloc _⟩
set_option maxRecDepth 100000 in
set_option maxHeartbeats 2000000 in
theorem new_Document (g : Nat) (x0 : ByteArray) (x1 : Option Addr) (x2a : Option Addr) (x2n x2c : Nat) (w : World) (h : Blk w g 57 #[.string x0, .pointer x1, .slice x2a x2n x2c]) :
    Calls Tryz.prog 22 #[.pointer (some ⟨g, 0, none⟩)] w fun e w' => ∃ n, e = .returned (.pointer (some ⟨n, 0, none⟩)) ∧ g ≤ n ∧ (∃ s, Blk w' n 57 #[.string s, .pointer x1, .slice x2a x2n x2c]) ∧ Keeps g g w w' := by
  have c0 := (h.cell 0).trans rfl
  have c1 := (h.cell 1).trans rfl
  have c2 := (h.cell 2).trans rfl
  have z0 := h.frozen 0
  have hl := h.lt
  have H := Aside0.mk h
  clear h
  go_enter Tryz.func22, Tryz.ntmps22
  go_wp2_with fail
  go_region
  all_goals
    go_wp2_with fail
    go_ret
    exact ⟨w.heap.size, rfl, by omega, ⟨_, Blk.new _ _ _⟩, ((Keeps.refl g g w).drew).alloc _⟩
end Go.Proofs.YthbinlnpipgobaaGreatDoor.New
namespace Go.Proofs.YthbinlnpipgobaaGreatDoor.New
set_option linter.unusedVariables false
set_option linter.unusedSimpArgs false
open Go.RowKit Go.Proofs.YthbinlnpipgobaaGreatDoorW.PrintWords Go.Proofs.YthbinlnpipgobaaGreatDoor.Keep Go.Proofs.YthbinlnpipgobaaGreatDoor.Env Go.Proofs.YthbinlnpipgobaaGreatDoor.Par

set_option maxRecDepth 100000 in
set_option maxHeartbeats 2000000 in
theorem new_FragmentDefinition (g : Nat) (x0 : ByteArray) (x1 : Option Addr) (x2 : ByteArray) (x3 : Option Addr) (x4a : Option Addr) (x4n x4c : Nat) (x5 : Option Addr) (x6a : Option Addr) (x6n x6c : Nat) (x7 : Option Addr) (w : World) (h : Blk w g 97 #[.string x0, .pointer x1, .string x2, .pointer x3, .slice x4a x4n x4c, .pointer x5, .slice x6a x6n x6c, .pointer x7]) :
    Calls Tryz.prog 123 #[.pointer (some ⟨g, 0, none⟩)] w fun e w' => ∃ n, e = .returned (.pointer (some ⟨n, 0, none⟩)) ∧ g ≤ n ∧ (∃ s, Blk w' n 97 #[.string s, .pointer x1, .string x2, .pointer x3, .slice x4a x4n x4c, .pointer x5, .slice x6a x6n x6c, .pointer x7]) ∧ Keeps g g w w' := by
  have c0 := (h.cell 0).trans rfl
  have c1 := (h.cell 1).trans rfl
  have c2 := (h.cell 2).trans rfl
  have c3 := (h.cell 3).trans rfl
  have c4 := (h.cell 4).trans rfl
  have c5 := (h.cell 5).trans rfl
  have c6 := (h.cell 6).trans rfl
  have c7 := (h.cell 7).trans rfl
  have z0 := h.frozen 0
  have hl := h.lt
  have H := Aside0.mk h
  clear h
  go_enter Tryz.func123, Tryz.ntmps123
  go_wp2_with fail
  go_region
  all_goals
    go_wp2_with fail
    go_ret
    exact ⟨w.heap.size, rfl, by omega, ⟨_, Blk.new _ _ _⟩, ((Keeps.refl g g w).drew).alloc _⟩
set_option maxRecDepth 100000 in
set_option maxHeartbeats 2000000 in
theorem new_StringValue (g : Nat) (x0 : ByteArray) (x1 : Option Addr) (x2 : ByteArray) (w : World) (h : Blk w g 215 #[.string x0, .pointer x1, .string x2]) :
    Calls Tryz.prog 186 #[.pointer (some ⟨g, 0, none⟩)] w fun e w' => ∃ n, e = .returned (.pointer (some ⟨n, 0, none⟩)) ∧ g ≤ n ∧ (∃ s, Blk w' n 215 #[.string s, .pointer x1, .string x2]) ∧ Keeps g g w w' := by
  have c0 := (h.cell 0).trans rfl
  have c1 := (h.cell 1).trans rfl
  have c2 := (h.cell 2).trans rfl
  have z0 := h.frozen 0
  have hl := h.lt
  have H := Aside0.mk h
  clear h
  go_enter Tryz.func186, Tryz.ntmps186
  go_wp2_with fail
  go_region
  all_goals
    go_wp2_with fail
    go_ret
    exact ⟨w.heap.size, rfl, by omega, ⟨_, Blk.new _ _ _⟩, ((Keeps.refl g g w).drew).alloc _⟩
set_option maxRecDepth 100000 in
set_option maxHeartbeats 2000000 in
theorem new_ObjectValue (g : Nat) (x0 : ByteArray) (x1 : Option Addr) (x2a : Option Addr) (x2n x2c : Nat) (w : World) (h : Blk w g 228 #[.string x0, .pointer x1, .slice x2a x2n x2c]) :
    Calls Tryz.prog 185 #[.pointer (some ⟨g, 0, none⟩)] w fun e w' => ∃ n, e = .returned (.pointer (some ⟨n, 0, none⟩)) ∧ g ≤ n ∧ (∃ s, Blk w' n 228 #[.string s, .pointer x1, .slice x2a x2n x2c]) ∧ Keeps g g w w' := by
  have c0 := (h.cell 0).trans rfl
  have c1 := (h.cell 1).trans rfl
  have c2 := (h.cell 2).trans rfl
  have z0 := h.frozen 0
  have hl := h.lt
  have H := Aside0.mk h
  clear h
  go_enter Tryz.func185, Tryz.ntmps185
  go_wp2_with fail
  go_region
  all_goals
    go_wp2_with fail
    go_ret
    exact ⟨w.heap.size, rfl, by omega, ⟨_, Blk.new _ _ _⟩, ((Keeps.refl g g w).drew).alloc _⟩
set_option maxRecDepth 100000 in
set_option maxHeartbeats 2000000 in
theorem new_ObjectField (g : Nat) (x0 : ByteArray) (x1 : Option Addr) (x2 : Option Addr) (x3t : TypeId) (x3v : Value) (w : World) (h : Blk w g 231 #[.string x0, .pointer x1, .pointer x2, .iface x3t x3v]) :
    Calls Tryz.prog 192 #[.pointer (some ⟨g, 0, none⟩)] w fun e w' => ∃ n, e = .returned (.pointer (some ⟨n, 0, none⟩)) ∧ g ≤ n ∧ (∃ s, Blk w' n 231 #[.string s, .pointer x1, .pointer x2, .iface x3t x3v]) ∧ Keeps g g w w' := by
  have c0 := (h.cell 0).trans rfl
  have c1 := (h.cell 1).trans rfl
  have c2 := (h.cell 2).trans rfl
  have c3 := (h.cell 3).trans rfl
  have z0 := h.frozen 0
  have hl := h.lt
  have H := Aside0.mk h
  clear h
  go_enter Tryz.func192, Tryz.ntmps192
  go_wp2_with fail
  go_region
  all_goals
    go_wp2_with fail
    go_ret
    exact ⟨w.heap.size, rfl, by omega, ⟨_, Blk.new _ _ _⟩, ((Keeps.refl g g w).drew).alloc _⟩
end Go.Proofs.YthbinlnpipgobaaGreatDoor.New
namespace Go.Proofs.YthbinlnpipgobaaGreatDoor.Par
set_option linter.unusedVariables false
set_option linter.unusedSimpArgs false
open Go.RowKit Go.Proofs.YthbinlnpipgobaaGreatDoorW.PrintWords Go.Proofs.YthbinlnpipgobaaGreatDoor.Keep Go.Proofs.YthbinlnpipgobaaGreatDoor.Mod Go.Proofs.YthbinlnpipgobaaGreatDoor.Sim Go.Proofs.YthbinlnpipgobaaGreatDoor.Four Go.Proofs.YthbinlnpipgobaaGreatDoor.Step Go.Proofs.YthbinlnpipgobaaGreatDoor.Env Go.Proofs.YthbinlnpipgobaaGreatDoor.Err Go.Proofs.YthbinlnpipgobaaGreatDoor.Lx Go.Proofs.YthbinlnpipgobaaGreatDoor.Ast Go.Proofs.YthbinlnpipgobaaGreatDoor.New Go.Proofs.YthbinlnpipgobaaGreatDoor.Tree

/-- What a maker of a node left: nothing of what was there ahead of the literal is changed. -/
theorem made_below {w w' : World} {o : Obj} (hk : Keeps w.heap.size w.heap.size (w.alloc o) w') : Below w.heap.size w w' :=
  ((Below.refl w.heap.size w).alloc (Nat.le_refl _) o).trans ⟨hk.os, hk.tape, hk.output, hk.size, fun k h => hk.block k (by simp; omega) (by omega) (by omega)⟩
theorem made_drew {w w' : World} {o : Obj} (hk : Keeps w.heap.size w.heap.size (w.alloc o).drew w') : Below w.heap.size w w' := made_below (o := o) ⟨hk.os, hk.tape, hk.output, hk.size, hk.block⟩

set_option maxRecDepth 100000 in
set_option maxHeartbeats 4000000 in
theorem loc_any (E : At) (w : World) (t : Tok) (st : Int) (L : Nat) (hP : PS E w t) (hL : L ≤ w.heap.size) :
    Calls Tryz.prog 23 #[.pointer (some ⟨E.pb, 0, none⟩), .int .i64 st] w fun e w' => ∃ v, e = .returned v ∧ GLoc L w' v ∧ (∃ a, v = .pointer a) ∧ Below w.heap.size w w' := by
  obtain ⟨c1, c2, c3, ⟨pe, c4⟩, c5, c6, c7, c8⟩ := ps_cells hP
  have HN := Aside0.mk (new_Location w.heap.size st pe (some ⟨E.sb, 0, none⟩) ((w.alloc (.cells #[.int .i64 st, .int .i64 pe, .pointer (some ⟨E.sb, 0, none⟩)] 81)).drew) (Blk.drew (Blk.new _ _ _)))
  clear hP c5 c6 c7 c8
  go_enter Tryz.func23, Tryz.ntmps23
  go_wp2_with fail
  go_region_with (go_at_call 46; refine HN.out.mono ?_; rintro e w2 ⟨n, rfl, hn, hb, hk⟩)
  all_goals
    have hb2 := Aside0.mk hb
    have hk2 := Aside0.mk hk
    clear hb hk
    go_wp2_with fail
    go_ret
    exact ⟨_, rfl, ⟨n, st, pe, rfl, .of_blk hb2.out (by omega) rfl (by decide), .of_blk hb2.out (by omega) rfl (by decide)⟩, ⟨_, rfl⟩, made_drew hk2.out⟩
end Go.Proofs.YthbinlnpipgobaaGreatDoor.Par
namespace Go.Proofs.YthbinlnpipgobaaGreatDoor.Par
set_option linter.unusedVariables false
set_option linter.unusedSimpArgs false
open Go.RowKit Go.Proofs.YthbinlnpipgobaaGreatDoorW.PrintWords Go.Proofs.YthbinlnpipgobaaGreatDoor.Keep Go.Proofs.YthbinlnpipgobaaGreatDoor.Mod Go.Proofs.YthbinlnpipgobaaGreatDoor.Sim Go.Proofs.YthbinlnpipgobaaGreatDoor.Four Go.Proofs.YthbinlnpipgobaaGreatDoor.Step Go.Proofs.YthbinlnpipgobaaGreatDoor.Env Go.Proofs.YthbinlnpipgobaaGreatDoor.Err Go.Proofs.YthbinlnpipgobaaGreatDoor.Lx Go.Proofs.YthbinlnpipgobaaGreatDoor.Ast Go.Proofs.YthbinlnpipgobaaGreatDoor.New Go.Proofs.YthbinlnpipgobaaGreatDoor.Tree

theorem expect_some (E : At) (w : World) (t t' : Tok) (k : Int) (hP : PS E w t) (h : mTok (lxOf E.s) k t = some t') :
    Calls Tryz.prog 77 #[.pointer (some ⟨E.pb, 0, none⟩), .int .i64 k] w fun e w' => e = .returned (.tuple #[tokV t, .nilIface]) ∧ Keeps E.pb E.qb w w' ∧ PS E w' t' := by
  unfold mTok at h
  by_cases hk : t.kind = k
  · rw [if_pos hk] at h; exact expect_yes E w t t' k hP hk h
  · rw [if_neg hk] at h; cases h
theorem expect_none (E : At) (w : World) (t : Tok) (k : Int) (hP : PS E w t) (h : mTok (lxOf E.s) k t = none) :
    Calls Tryz.prog 77 #[.pointer (some ⟨E.pb, 0, none⟩), .int .i64 k] w fun e w' => (∃ g, e = .returned (.tuple #[tokV t, errV g])) ∧ Keeps E.pb E.qb w w' := by
  unfold mTok at h
  by_cases hk : t.kind = k
  · rw [if_pos hk] at h; exact expect_adv E w t k hP hk h
  · exact expect_no E w t k hP hk
/-- The parser has read something and stands at a token; or it has refused. -/
def POk (E : At) (w : World) (G : World → Value → Prop) (t' : Tok) (e : Ending) (w' : World) : Prop := ∃ v, e = .returned (.tuple #[v, .nilIface]) ∧ G w' v ∧ Keeps E.pb E.qb w w' ∧ PS E w' t'
def PErr (E : At) (w : World) (v : Value) (e : Ending) (w' : World) : Prop := (∃ g, e = .returned (.tuple #[v, errV g])) ∧ Keeps E.pb E.qb w w'
theorem token_cells {w2 : World} (t : Tok) : (w2.alloc (.cells #[.int .i64 t.kind, .int .i64 t.start, .int .i64 t.stop, .string t.value] 68)).cell? ⟨w2.heap.size, 1, none⟩ = some (.int .i64 t.start) ∧ (w2.alloc (.cells #[.int .i64 t.kind, .int .i64 t.start, .int .i64 t.stop, .string t.value] 68)).cell? ⟨w2.heap.size, 3, none⟩ = some (.string t.value) := by
  have h := Blk.new w2 68 #[.int .i64 t.kind, .int .i64 t.start, .int .i64 t.stop, .string t.value]
  exact ⟨(h.cell 1).trans rfl, (h.cell 3).trans rfl⟩

theorem tok_after {w2 w3 : World} {o : Obj} (hb : Below (w2.alloc o).drew.heap.size (w2.alloc o).drew w3) : Below w2.heap.size w2 w3 :=
  (below_drew (below_alloc (Below.refl w2.heap.size w2) o)).trans (hb.mono (by show w2.heap.size ≤ (w2.alloc o).heap.size; simp))
theorem made_after {w2 w3 w5 : World} {o o' : Obj} (hb : Below (w2.alloc o).drew.heap.size (w2.alloc o).drew w3) (hk : Keeps w3.heap.size w3.heap.size (w3.alloc o') w5) : Below w2.heap.size w2 w5 :=
  (tok_after hb).trans ((made_below hk).mono (tok_after hb).size)
set_option maxRecDepth 100000 in
set_option maxHeartbeats 4000000 in
theorem name_yes (E : At) (w : World) (t t' : Tok) (L : Nat) (hP : PS E w t) (hL : L ≤ w.heap.size) (h : mName (lxOf E.s) t = some t') :
    Calls Tryz.prog 39 #[.pointer (some ⟨E.pb, 0, none⟩)] w fun e w' => ∃ n, e = .returned (.tuple #[.pointer (some ⟨n, 0, none⟩), .nilIface]) ∧ GName L t.value w' (ptr n) ∧ Keeps E.pb E.qb w w' ∧ PS E w' t' := by
  have HX := Aside0.mk (expect_some E w t t' 15 hP h)
  have hlw := ps_lt hP
  have HP0 := Aside0.mk hP
  clear hP h
  go_enter Tryz.func39, Tryz.ntmps39
  go_wp2_with fail
  refine HX.out.mono ?_
  rintro e w2 ⟨rfl, hk, hp⟩
  have HK := Aside0.mk hk
  have HP2 := Aside0.mk hp
  have hsz := hk.size
  obtain ⟨r1, r3⟩ := token_cells (w2 := w2) t
  have HL := Aside0.mk (fun W (hb : Below w2.heap.size w2 W) => loc_any E W t' t.start L (hp.below hb) (by have := hb.size; omega))
  clear hk hp
  go_wp2_with fail
  go_region_with (first | (go_at_call 23; refine (HL.out (World.drew (World.alloc _ _)) (below_drew (below_alloc (Below.refl _ _) _))).mono ?_; rintro e w3 ⟨v, rfl, hg, ⟨a, rfl⟩, hb⟩; have r1' := pw_cell_below hb r1; have r3' := pw_cell_below hb r3) | (go_at_call 78; refine (new_Name w3.heap.size _ a t.value _ (Blk.new _ _ _)).mono ?_; rintro e w5 ⟨n, rfl, hn, ⟨s5, hb5⟩, hk5⟩))
  all_goals
    have hb' := Aside0.mk hb
    have hb5' := Aside0.mk hb5
    have hk5' := Aside0.mk hk5
    clear hb hb5 hk5
    go_wp2_with fail
    have hbb := made_after hb'.out hk5'.out
    have hs3 : w2.heap.size ≤ w3.heap.size := (tok_after hb'.out).size
    refine bodyPost_ret (v := .tuple #[.pointer (some ⟨n, 0, none⟩), .nilIface]) (by simp [results, Tryz.results39, go_sem]) rfl ⟨n, rfl, ⟨n, rfl, .of_blk hb5'.out (by omega) rfl (by decide)⟩, HK.out.then hbb, HP2.out.below hbb⟩
set_option maxRecDepth 100000 in
set_option maxHeartbeats 4000000 in
theorem name_no (E : At) (w : World) (t : Tok) (hP : PS E w t) (h : mName (lxOf E.s) t = none) :
    Calls Tryz.prog 39 #[.pointer (some ⟨E.pb, 0, none⟩)] w fun e w' => PErr E w (.pointer none) e w' := by
  have HX := Aside0.mk (expect_none E w t 15 hP h)
  clear hP h
  go_enter Tryz.func39, Tryz.ntmps39
  go_wp2_with fail
  refine HX.out.mono ?_
  rintro e w2 ⟨⟨g, rfl⟩, hk⟩
  have HK := Aside0.mk hk
  clear hk
  go_wp2_with fail
  go_ret2
  exact ⟨⟨g, rfl⟩, HK.out.alloc _⟩
end Go.Proofs.YthbinlnpipgobaaGreatDoor.Par
namespace Go.Proofs.YthbinlnpipgobaaGreatDoor.Par
set_option linter.unusedVariables false
set_option linter.unusedSimpArgs false
open Go.RowKit Go.Proofs.YthbinlnpipgobaaGreatDoorW.PrintWords Go.Proofs.YthbinlnpipgobaaGreatDoor.Keep Go.Proofs.YthbinlnpipgobaaGreatDoor.Mod Go.Proofs.YthbinlnpipgobaaGreatDoor.Sim Go.Proofs.YthbinlnpipgobaaGreatDoor.Four Go.Proofs.YthbinlnpipgobaaGreatDoor.Step Go.Proofs.YthbinlnpipgobaaGreatDoor.Env Go.Proofs.YthbinlnpipgobaaGreatDoor.Err Go.Proofs.YthbinlnpipgobaaGreatDoor.Lx Go.Proofs.YthbinlnpipgobaaGreatDoor.Ast Go.Proofs.YthbinlnpipgobaaGreatDoor.New Go.Proofs.YthbinlnpipgobaaGreatDoor.Tree

/-- A literal's maker behind loc, without a token variable of its own. -/
theorem made_two {w2 w3 w5 : World} {o' : Obj} (hb : Below w2.heap.size w2 w3) (hk : Keeps w3.heap.size w3.heap.size (w3.alloc o') w5) : Below w2.heap.size w2 w5 :=
  hb.trans ((made_below hk).mono hb.size)
theorem st_gloc {L : Nat} {w w' : World} {v : Value} (h : GLoc L w v) (hb : Below w.heap.size w w') : GLoc L w' v := st_loc _ _ _ (Up.of_below hb) h
theorem st_gname {L : Nat} {s : ByteArray} {w w' : World} {v : Value} (h : GName L s w v) (hb : Below w.heap.size w w') : GName L s w' v := st_name _ _ _ (Up.of_below hb) h

set_option maxRecDepth 100000 in
set_option maxHeartbeats 4000000 in
theorem var_yes (E : At) (w : World) (t t' : Tok) (y : NL) (L : Nat) (hP : PS E w t) (hL : L ≤ w.heap.size) (h : nVar (lxOf E.s) t = some (y, t')) :
    Calls Tryz.prog 114 #[.pointer (some ⟨E.pb, 0, none⟩)] w fun e w' => ∃ n, e = .returned (.tuple #[.pointer (some ⟨n, 0, none⟩), .nilIface]) ∧ (∀ k, GVal L (k + 1) y w' (.iface 123 (ptr n))) ∧ Keeps E.pb E.qb w w' ∧ PS E w' t' := by
  have key : ∃ t1, mTok (lxOf E.s) 3 t = some t1 ∧ mName (lxOf E.s) t1 = some t' ∧ y = nd 11 t1.value emp emp 0 [] := by
    obtain ⟨t1, h1, h⟩ := Option.bind_eq_some_iff.1 h
    obtain ⟨x, h, e1⟩ := Option.map_eq_some_iff.1 h
    obtain ⟨t3, hn, rfl⟩ := Option.map_eq_some_iff.1 h
    exact ⟨t1, h1, by rw [← (Prod.mk.inj e1).2]; exact hn, (Prod.mk.inj e1).1.symm⟩
  obtain ⟨t1, h1, hn, rfl⟩ := key
  have HX := Aside0.mk (expect_some E w t t1 3 hP h1)
  have HN := Aside0.mk (fun W (hp : PS E W t1) (hl : L ≤ W.heap.size) => name_yes E W t1 t' L hp hl hn)
  obtain ⟨c1, c2, c3, c4, c5, c6, c7, c8⟩ := ps_cells hP
  clear hP h h1 hn c1 c2 c3 c4 c5 c7 c8
  go_enter Tryz.func114, Tryz.ntmps114
  go_wp2_with fail
  refine HX.out.mono ?_
  rintro e w2 ⟨rfl, hk, hp⟩
  have HK := Aside0.mk hk
  have HN2 := Aside0.mk (HN.out w2 hp (by have := hk.size; omega))
  clear hk hp
  go_wp2_with fail
  refine HN2.out.mono ?_
  rintro e w3 ⟨n3, rfl, hg3, hk3, hp3⟩
  have HK3 := Aside0.mk (HK.out.trans hk3)
  have HG3 := Aside0.mk hg3
  have HP3 := Aside0.mk hp3
  have HL := Aside0.mk (loc_any E w3 t' t.start L hp3 (by have := HK3.out.size; omega))
  clear hk3 hg3 hp3
  go_wp2_with fail
  refine HL.out.mono ?_
  rintro e w4 ⟨v, rfl, hg, ⟨a, rfl⟩, hb⟩
  have HB4 := Aside0.mk hb
  have HGL := Aside0.mk hg
  clear hb hg
  go_wp2_with fail
  refine (new_Variable w4.heap.size _ a (some ⟨n3, 0, none⟩) _ (Blk.new _ _ _)).mono ?_
  rintro e w5 ⟨n, rfl, hn, ⟨s5, hb5⟩, hk5⟩
  have HB5 := Aside0.mk hb5
  have HK5 := Aside0.mk hk5
  clear hb5 hk5
  go_wp2_with fail
  have hbb := made_two HB4.out HK5.out
  have hb45 := made_below HK5.out
  have hLn : L ≤ n := by have h1 := HK3.out.size; have h2 := HB4.out.size; omega
  refine bodyPost_ret (v := .tuple #[.pointer (some ⟨n, 0, none⟩), .nilIface]) (by simp [results, Tryz.results114, go_sem]) rfl ⟨n, rfl, fun k => ⟨n, _, .of_blk HB5.out hLn rfl (by decide), st_gloc HGL.out hb45, .inl ⟨rfl, _, _, .of_blk HB5.out hLn rfl (by decide), st_gname HG3.out hbb, rfl⟩⟩, HK3.out.then hbb, HP3.out.below hbb⟩
set_option maxRecDepth 100000 in
set_option maxHeartbeats 4000000 in
theorem var_no (E : At) (w : World) (t : Tok) (hP : PS E w t) (h : nVar (lxOf E.s) t = none) :
    Calls Tryz.prog 114 #[.pointer (some ⟨E.pb, 0, none⟩)] w fun e w' => PErr E w (.pointer none) e w' := by
  replace h : mVar (lxOf E.s) t = none := by rw [← p_var t, h]; rfl
  unfold mVar at h
  cases h1 : mTok (lxOf E.s) 3 t with
  | none =>
    have HX := Aside0.mk (expect_none E w t 3 hP h1)
    obtain ⟨c1, c2, c3, c4, c5, c6, c7, c8⟩ := ps_cells hP
    clear hP h h1 c1 c2 c3 c4 c5 c7 c8
    go_enter Tryz.func114, Tryz.ntmps114
    go_wp2_with fail
    refine HX.out.mono ?_
    rintro e w2 ⟨⟨g, rfl⟩, hk⟩
    have HK := Aside0.mk hk
    clear hk
    go_wp2_with fail
    go_ret2
    exact ⟨⟨g, rfl⟩, HK.out⟩
  | some t1 =>
    rw [h1] at h
    have hn : mName (lxOf E.s) t1 = none := h
    have HX := Aside0.mk (expect_some E w t t1 3 hP h1)
    have HN := Aside0.mk (fun W (hp : PS E W t1) => name_no E W t1 hp hn)
    obtain ⟨c1, c2, c3, c4, c5, c6, c7, c8⟩ := ps_cells hP
    clear hP h h1 hn c1 c2 c3 c4 c5 c7 c8
    go_enter Tryz.func114, Tryz.ntmps114
    go_wp2_with fail
    refine HX.out.mono ?_
    rintro e w2 ⟨rfl, hk, hp⟩
    have HK := Aside0.mk hk
    have HN2 := Aside0.mk (HN.out w2 hp)
    clear hk hp
    go_wp2_with fail
    refine HN2.out.mono ?_
    rintro e w3 ⟨⟨g, rfl⟩, hk3⟩
    have HK3 := Aside0.mk (HK.out.trans hk3)
    clear hk3
    go_wp2_with fail
    go_ret2
    exact ⟨⟨g, rfl⟩, HK3.out⟩

set_option maxRecDepth 100000 in
set_option maxHeartbeats 4000000 in
theorem named_yes (E : At) (w : World) (t t' : Tok) (L : Nat) (hP : PS E w t) (hL : L ≤ w.heap.size) (h : mName (lxOf E.s) t = some t') :
    Calls Tryz.prog 122 #[.pointer (some ⟨E.pb, 0, none⟩)] w fun e w' => ∃ n, e = .returned (.tuple #[.pointer (some ⟨n, 0, none⟩), .nilIface]) ∧ GNamed L t.value w' (ptr n) ∧ Keeps E.pb E.qb w w' ∧ PS E w' t' := by
  have HN2 := Aside0.mk (name_yes E w t t' L hP hL h)
  obtain ⟨c1, c2, c3, c4, c5, c6, c7, c8⟩ := ps_cells hP
  clear hP h c1 c2 c3 c4 c5 c7 c8
  go_enter Tryz.func122, Tryz.ntmps122
  go_wp2_with fail
  refine HN2.out.mono ?_
  rintro e w3 ⟨n3, rfl, hg3, hk3, hp3⟩
  have HK3 := Aside0.mk hk3
  have HG3 := Aside0.mk hg3
  have HP3 := Aside0.mk hp3
  have HL := Aside0.mk (loc_any E w3 t' t.start L hp3 (by have := HK3.out.size; omega))
  clear hk3 hg3 hp3
  go_wp2_with fail
  refine HL.out.mono ?_
  rintro e w4 ⟨v, rfl, hg, ⟨a, rfl⟩, hb⟩
  have HB4 := Aside0.mk hb
  clear hb hg
  go_wp2_with fail
  refine (new_Named w4.heap.size _ a (some ⟨n3, 0, none⟩) _ (Blk.new _ _ _)).mono ?_
  rintro e w5 ⟨n, rfl, hn, ⟨s5, hb5⟩, hk5⟩
  have HB5 := Aside0.mk hb5
  have HK5 := Aside0.mk hk5
  clear hb5 hk5
  go_wp2_with fail
  have hbb := made_two HB4.out HK5.out
  have hLn : L ≤ n := by have h1 := HK3.out.size; have h2 := HB4.out.size; omega
  refine bodyPost_ret (v := .tuple #[.pointer (some ⟨n, 0, none⟩), .nilIface]) (by simp [results, Tryz.results122, go_sem]) rfl ⟨n, rfl, ⟨n, _, rfl, .of_blk HB5.out hLn rfl (by decide), st_gname HG3.out hbb⟩, HK3.out.then hbb, HP3.out.below hbb⟩
set_option maxRecDepth 100000 in
set_option maxHeartbeats 4000000 in
theorem named_no (E : At) (w : World) (t : Tok) (hP : PS E w t) (h : mName (lxOf E.s) t = none) :
    Calls Tryz.prog 122 #[.pointer (some ⟨E.pb, 0, none⟩)] w fun e w' => PErr E w (.pointer none) e w' := by
  have HN2 := Aside0.mk (name_no E w t hP h)
  obtain ⟨c1, c2, c3, c4, c5, c6, c7, c8⟩ := ps_cells hP
  clear hP h c1 c2 c3 c4 c5 c7 c8
  go_enter Tryz.func122, Tryz.ntmps122
  go_wp2_with fail
  refine HN2.out.mono ?_
  rintro e w3 ⟨⟨g, rfl⟩, hk3⟩
  have HK3 := Aside0.mk hk3
  clear hk3
  go_wp2_with fail
  go_ret2
  exact ⟨⟨g, rfl⟩, HK3.out⟩

set_option maxRecDepth 100000 in
set_option maxHeartbeats 4000000 in
theorem unexpected_any (E : At) (w : World) (t : Tok) (hP : PS E w t) :
    Calls Tryz.prog 21 #[.pointer (some ⟨E.pb, 0, none⟩), zeroT] w fun e w' => (∃ g, e = .returned (errV g)) ∧ Below w.heap.size w w' := by
  obtain ⟨c1, c2, c3, c4, c5, c6, c7, c8⟩ := ps_cells hP
  have HA := Aside0.mk (fun W (h : PS E W t) msg pos => ps_err h msg pos)
  have HP := Aside0.mk hP
  have hl1 := (ps_lt hP).1
  have hl2 : E.pb < w.heap.size + 1 := by omega
  clear hP c2 c3 c4
  go_enter Tryz.func21, Tryz.ntmps21
  go_upto_region 5 with fail
  go_region_with (go_at_call 45; refine (HA.out (World.drew _) (ps_two HP.out _ _) _ _).mono ?_; rintro e w2 ⟨g, rfl, hb⟩)
  all_goals
    have HB := Aside0.mk (Below.trans (below_drew (below_alloc (below_alloc (Below.refl w.heap.size w) _) _)) (hb.mono (by show w.heap.size ≤ ((w.alloc _).alloc _).heap.size; simp; omega)))
    clear hb
    go_wp2_with fail
    go_ret
    exact ⟨⟨g, rfl⟩, HB.out⟩
set_option maxRecDepth 100000 in
set_option maxHeartbeats 4000000 in
theorem empty_any (E : At) (w : World) (t : Tok) (st k1 k2 : Int) (hP : PS E w t) :
    Calls Tryz.prog 111 #[.pointer (some ⟨E.pb, 0, none⟩), .int .i64 st, .int .i64 k1, .int .i64 k2] w fun e w' => (∃ g, e = .returned (errV g)) ∧ Below w.heap.size w w' := by
  obtain ⟨c1, c2, c3, c4, c5, c6, c7, c8⟩ := ps_cells hP
  have HA := Aside0.mk (fun msg pos => ps_err hP msg pos)
  clear hP c2 c3 c4 c5 c6 c7 c8
  go_enter Tryz.func111, Tryz.ntmps111
  go_wp2_with fail
  refine (HA.out _ _).mono ?_
  rintro e w2 ⟨g, rfl, hb⟩
  have HB := Aside0.mk hb
  clear hb
  go_wp2_with fail
  go_ret
  exact ⟨⟨g, rfl⟩, HB.out⟩
end Go.Proofs.YthbinlnpipgobaaGreatDoor.Par
namespace Go.Proofs.YthbinlnpipgobaaGreatDoor.Par
set_option linter.unusedVariables false
set_option linter.unusedSimpArgs false
open Go.RowKit Go.Proofs.YthbinlnpipgobaaGreatDoorW.PrintWords Go.Proofs.YthbinlnpipgobaaGreatDoor.Keep Go.Proofs.YthbinlnpipgobaaGreatDoor.Mod Go.Proofs.YthbinlnpipgobaaGreatDoor.Sim Go.Proofs.YthbinlnpipgobaaGreatDoor.Four Go.Proofs.YthbinlnpipgobaaGreatDoor.Step Go.Proofs.YthbinlnpipgobaaGreatDoor.Env Go.Proofs.YthbinlnpipgobaaGreatDoor.Err Go.Proofs.YthbinlnpipgobaaGreatDoor.Lx

set_option maxRecDepth 100000 in
set_option maxHeartbeats 4000000 in
theorem keyword_yes (E : At) (w : World) (t : Tok) (t' : Tok) (x : ByteArray) (hP : PS E w t) (hk15 : t.kind = 15) (hv : t.value = x) (ht : lxOf E.s t.stop = some t') :
    Calls Tryz.prog 120 #[.pointer (some ⟨E.pb, 0, none⟩), .string x] w fun e w' => e = .returned (.tuple #[tokV t, .nilIface]) ∧ Keeps E.pb E.qb w w' ∧ PS E w' t' := by
  obtain ⟨c1, c2, c3, c4, c5, c6, c7, c8⟩ := ps_cells hP
  have hl := ps_lt hP
  have HPS := Aside0.mk hP
  have HA := Aside0.mk (fun W (h : PS E W t) => advance_yes E W t t' h ht)
  clear ht
  subst hv
  have hkb : (t.kind == 15) = true := by rw [hk15]; rfl
  have hvb : (t.value.toList == t.value.toList) = true := by simp
  clear hk15
  clear c2 c3 c4
  go_enter Tryz.func120, Tryz.ntmps120
  go_upto_region 3 with fail
  go_region_with (go_at_call 34; refine (HA.out (World.drew _) (ps_two HPS.out _ _)).mono ?_; rintro e w2 ⟨rfl, hk, hp⟩; obtain ⟨⟨a0, a1, a2, a3⟩, ⟨b0, b1, b2, b3⟩, ⟨z0, z1, z2, z3⟩, hkw⟩ := two_tok hl hk)
  all_goals
    have hp2 := Aside0.mk hp
    have hk2 := Aside0.mk hkw
    clear hp hk hkw
    go_wp2_with fail
    refine bodyPost_ret (v := .tuple #[tokV t, .nilIface]) (by simp [results, Tryz.results120, go_sem, tokV, b0, b1, b2, b3]) rfl ⟨rfl, keeps_new hk2.out below_res, ps_end HPS.out hp2.out below_res⟩
set_option maxRecDepth 100000 in
set_option maxHeartbeats 4000000 in
theorem keyword_adv (E : At) (w : World) (t : Tok) (x : ByteArray) (hP : PS E w t) (hk15 : t.kind = 15) (hv : t.value = x) (ht : lxOf E.s t.stop = none) :
    Calls Tryz.prog 120 #[.pointer (some ⟨E.pb, 0, none⟩), .string x] w fun e w' => (∃ g, e = .returned (.tuple #[tokV t, errV g])) ∧ Keeps E.pb E.qb w w' := by
  obtain ⟨c1, c2, c3, c4, c5, c6, c7, c8⟩ := ps_cells hP
  have hl := ps_lt hP
  have HPS := Aside0.mk hP
  have HA := Aside0.mk (fun W (h : PS E W t) => advance_no E W t h ht)
  clear ht
  subst hv
  have hkb : (t.kind == 15) = true := by rw [hk15]; rfl
  have hvb : (t.value.toList == t.value.toList) = true := by simp
  clear hk15
  clear c2 c3 c4
  go_enter Tryz.func120, Tryz.ntmps120
  go_upto_region 3 with fail
  go_region_with (go_at_call 34; refine (HA.out (World.drew _) (ps_two HPS.out _ _)).mono ?_; rintro e w2 ⟨⟨g, rfl⟩, hk⟩; obtain ⟨⟨a0, a1, a2, a3⟩, ⟨b0, b1, b2, b3⟩, ⟨z0, z1, z2, z3⟩, hkw⟩ := two_tok hl hk)
  all_goals
    have hk2 := Aside0.mk hkw
    clear hk hkw
    go_wp2_with fail
    refine bodyPost_ret (v := .tuple #[tokV t, errV g]) (by simp [results, Tryz.results120, go_sem, tokV, errV, b0, b1, b2, b3]) rfl ⟨⟨g, rfl⟩, keeps_new hk2.out below_res⟩
set_option maxRecDepth 100000 in
set_option maxHeartbeats 4000000 in
theorem keyword_no (E : At) (w : World) (t : Tok) (x : ByteArray) (hP : PS E w t) (hne : t.kind ≠ 15 ∨ t.value.toList ≠ x.toList) :
    Calls Tryz.prog 120 #[.pointer (some ⟨E.pb, 0, none⟩), .string x] w fun e w' => (∃ g, e = .returned (.tuple #[tokV t, errV g])) ∧ Keeps E.pb E.qb w w' := by
  obtain ⟨c1, c2, c3, c4, c5, c6, c7, c8⟩ := ps_cells hP
  have hl := ps_lt hP
  have HPS := Aside0.mk hP
  have HA := Aside0.mk (fun W (h : PS E W t) msg pos => ps_err h msg pos)
  clear c2 c3 c4
  by_cases hk15 : t.kind = 15
  · have hv : (t.value.toList == x.toList) = false := beq_eq_false_iff_ne.2 (hne.resolve_left (fun h => h hk15))
    have hkb : (t.kind == 15) = true := by rw [hk15]; rfl
    clear hne hk15
    go_enter Tryz.func120, Tryz.ntmps120
    go_upto_region 5 with fail
    go_region_with (go_at_call 45; refine (HA.out (World.drew _) (ps_two HPS.out _ _) _ _).mono ?_; rintro e w2 ⟨g, rfl, hb⟩; have hk : Keeps E.pb E.qb _ w2 := Keeps.of_below _ _ hb; obtain ⟨⟨a0, a1, a2, a3⟩, ⟨b0, b1, b2, b3⟩, ⟨z0, z1, z2, z3⟩, hkw⟩ := two_tok hl hk)
    all_goals
      have hk2 := Aside0.mk hkw
      clear hk hkw hb
      go_wp2_with fail
      refine bodyPost_ret (v := .tuple #[tokV t, errV g]) (by simp [results, Tryz.results120, go_sem, tokV, errV, b0, b1, b2, b3]) rfl ⟨⟨g, rfl⟩, keeps_new hk2.out below_res⟩
  · have hkb : (t.kind == 15) = false := beq_eq_false_iff_ne.2 hk15
    clear hne hk15
    go_enter Tryz.func120, Tryz.ntmps120
    go_upto_region 5 with fail
    go_region_with (go_at_call 45; refine (HA.out (World.drew _) (ps_two HPS.out _ _) _ _).mono ?_; rintro e w2 ⟨g, rfl, hb⟩; have hk : Keeps E.pb E.qb _ w2 := Keeps.of_below _ _ hb; obtain ⟨⟨a0, a1, a2, a3⟩, ⟨b0, b1, b2, b3⟩, ⟨z0, z1, z2, z3⟩, hkw⟩ := two_tok hl hk)
    all_goals
      have hk2 := Aside0.mk hkw
      clear hk hkw hb
      go_wp2_with fail
      refine bodyPost_ret (v := .tuple #[tokV t, errV g]) (by simp [results, Tryz.results120, go_sem, tokV, errV, b0, b1, b2, b3]) rfl ⟨⟨g, rfl⟩, keeps_new hk2.out below_res⟩
end Go.Proofs.YthbinlnpipgobaaGreatDoor.Par
