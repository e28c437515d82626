import Derived.Test.YtaekkifjkgpimaaGreatDoorBase
namespace Go.Proofs.YtaekkifjkgpimaaGreatDoor.Cast
set_option linter.unusedVariables false
set_option linter.unusedSimpArgs false
open Go.RowKit Go.Proofs.YtaekkifjkgpimaaGreatDoorW.PrintWords Go.Proofs.YtaekkifjkgpimaaGreatDoor.Base

theorem as_string (v : Value) (w : World) : (Instr.typeAssert (.iface 9 v) 20 9 true).run Tryz.prog w = .ok (.tuple #[v, .bool true]) w := by kernel_rfl
theorem no_string_0 (v : Value) (w : World) : (Instr.typeAssert (.iface 9 v) 20 4 true).run Tryz.prog w = .ok (.tuple #[.bool false, .bool false]) w := by kernel_rfl
theorem no_string_1 (v : Value) (w : World) : (Instr.typeAssert (.iface 9 v) 20 50 true).run Tryz.prog w = .ok (.tuple #[.pointer none, .bool false]) w := by kernel_rfl
theorem no_string_2 (v : Value) (w : World) : (Instr.typeAssert (.iface 9 v) 20 3 true).run Tryz.prog w = .ok (.tuple #[.int .i64 0, .bool false]) w := by kernel_rfl
theorem no_string_3 (v : Value) (w : World) : (Instr.typeAssert (.iface 9 v) 20 51 true).run Tryz.prog w = .ok (.tuple #[.pointer none, .bool false]) w := by kernel_rfl
theorem no_string_4 (v : Value) (w : World) : (Instr.typeAssert (.iface 9 v) 20 52 true).run Tryz.prog w = .ok (.tuple #[.int .i8 0, .bool false]) w := by kernel_rfl
theorem no_string_5 (v : Value) (w : World) : (Instr.typeAssert (.iface 9 v) 20 53 true).run Tryz.prog w = .ok (.tuple #[.pointer none, .bool false]) w := by kernel_rfl
theorem no_string_6 (v : Value) (w : World) : (Instr.typeAssert (.iface 9 v) 20 54 true).run Tryz.prog w = .ok (.tuple #[.int .i16 0, .bool false]) w := by kernel_rfl
theorem no_string_7 (v : Value) (w : World) : (Instr.typeAssert (.iface 9 v) 20 55 true).run Tryz.prog w = .ok (.tuple #[.pointer none, .bool false]) w := by kernel_rfl
theorem no_string_8 (v : Value) (w : World) : (Instr.typeAssert (.iface 9 v) 20 21 true).run Tryz.prog w = .ok (.tuple #[.int .i32 0, .bool false]) w := by kernel_rfl
theorem no_string_9 (v : Value) (w : World) : (Instr.typeAssert (.iface 9 v) 20 56 true).run Tryz.prog w = .ok (.tuple #[.pointer none, .bool false]) w := by kernel_rfl
theorem no_string_10 (v : Value) (w : World) : (Instr.typeAssert (.iface 9 v) 20 2 true).run Tryz.prog w = .ok (.tuple #[.int .i64 0, .bool false]) w := by kernel_rfl
theorem no_string_11 (v : Value) (w : World) : (Instr.typeAssert (.iface 9 v) 20 57 true).run Tryz.prog w = .ok (.tuple #[.pointer none, .bool false]) w := by kernel_rfl
theorem no_string_12 (v : Value) (w : World) : (Instr.typeAssert (.iface 9 v) 20 58 true).run Tryz.prog w = .ok (.tuple #[.int .u64 0, .bool false]) w := by kernel_rfl
theorem no_string_13 (v : Value) (w : World) : (Instr.typeAssert (.iface 9 v) 20 59 true).run Tryz.prog w = .ok (.tuple #[.pointer none, .bool false]) w := by kernel_rfl
theorem no_string_14 (v : Value) (w : World) : (Instr.typeAssert (.iface 9 v) 20 5 true).run Tryz.prog w = .ok (.tuple #[.int .u8 0, .bool false]) w := by kernel_rfl
theorem no_string_15 (v : Value) (w : World) : (Instr.typeAssert (.iface 9 v) 20 60 true).run Tryz.prog w = .ok (.tuple #[.pointer none, .bool false]) w := by kernel_rfl
theorem no_string_16 (v : Value) (w : World) : (Instr.typeAssert (.iface 9 v) 20 61 true).run Tryz.prog w = .ok (.tuple #[.int .u16 0, .bool false]) w := by kernel_rfl
theorem no_string_17 (v : Value) (w : World) : (Instr.typeAssert (.iface 9 v) 20 62 true).run Tryz.prog w = .ok (.tuple #[.pointer none, .bool false]) w := by kernel_rfl
theorem no_string_18 (v : Value) (w : World) : (Instr.typeAssert (.iface 9 v) 20 63 true).run Tryz.prog w = .ok (.tuple #[.int .u32 0, .bool false]) w := by kernel_rfl
theorem no_string_19 (v : Value) (w : World) : (Instr.typeAssert (.iface 9 v) 20 64 true).run Tryz.prog w = .ok (.tuple #[.pointer none, .bool false]) w := by kernel_rfl
theorem no_string_20 (v : Value) (w : World) : (Instr.typeAssert (.iface 9 v) 20 65 true).run Tryz.prog w = .ok (.tuple #[.int .u64 0, .bool false]) w := by kernel_rfl
theorem no_string_21 (v : Value) (w : World) : (Instr.typeAssert (.iface 9 v) 20 66 true).run Tryz.prog w = .ok (.tuple #[.pointer none, .bool false]) w := by kernel_rfl
theorem no_string_22 (v : Value) (w : World) : (Instr.typeAssert (.iface 9 v) 20 67 true).run Tryz.prog w = .ok (.tuple #[.float .f32 0, .bool false]) w := by kernel_rfl
theorem no_string_23 (v : Value) (w : World) : (Instr.typeAssert (.iface 9 v) 20 68 true).run Tryz.prog w = .ok (.tuple #[.pointer none, .bool false]) w := by kernel_rfl
theorem no_string_24 (v : Value) (w : World) : (Instr.typeAssert (.iface 9 v) 20 27 true).run Tryz.prog w = .ok (.tuple #[.float .f64 0, .bool false]) w := by kernel_rfl
theorem no_string_25 (v : Value) (w : World) : (Instr.typeAssert (.iface 9 v) 20 69 true).run Tryz.prog w = .ok (.tuple #[.pointer none, .bool false]) w := by kernel_rfl
theorem no_string_26 (v : Value) (w : World) : (Instr.typeAssert (.iface 9 v) 20 39 true).run Tryz.prog w = .ok (.tuple #[.slice none 0 0, .bool false]) w := by kernel_rfl
theorem no_string_27 (v : Value) (w : World) : (Instr.typeAssert (.iface 9 v) 20 40 true).run Tryz.prog w = .ok (.tuple #[.map none, .bool false]) w := by kernel_rfl
theorem no_string_28 (v : Value) (w : World) : (Instr.typeAssert (.iface 9 v) 20 42 true).run Tryz.prog w = .ok (.tuple #[.agg #[], .bool false]) w := by kernel_rfl
-- names: as_string no_string_0 no_string_1 no_string_2 no_string_3 no_string_4 no_string_5 no_string_6 no_string_7 no_string_8 no_string_9 no_string_10 no_string_11 no_string_12 no_string_13 no_string_14 no_string_15 no_string_16 no_string_17 no_string_18 no_string_19 no_string_20 no_string_21 no_string_22 no_string_23 no_string_24 no_string_25 no_string_26 no_string_27 no_string_28
theorem as_float64 (v : Value) (w : World) : (Instr.typeAssert (.iface 27 v) 20 27 true).run Tryz.prog w = .ok (.tuple #[v, .bool true]) w := by kernel_rfl
theorem no_float64_0 (v : Value) (w : World) : (Instr.typeAssert (.iface 27 v) 20 4 true).run Tryz.prog w = .ok (.tuple #[.bool false, .bool false]) w := by kernel_rfl
theorem no_float64_1 (v : Value) (w : World) : (Instr.typeAssert (.iface 27 v) 20 50 true).run Tryz.prog w = .ok (.tuple #[.pointer none, .bool false]) w := by kernel_rfl
theorem no_float64_2 (v : Value) (w : World) : (Instr.typeAssert (.iface 27 v) 20 3 true).run Tryz.prog w = .ok (.tuple #[.int .i64 0, .bool false]) w := by kernel_rfl
theorem no_float64_3 (v : Value) (w : World) : (Instr.typeAssert (.iface 27 v) 20 51 true).run Tryz.prog w = .ok (.tuple #[.pointer none, .bool false]) w := by kernel_rfl
theorem no_float64_4 (v : Value) (w : World) : (Instr.typeAssert (.iface 27 v) 20 52 true).run Tryz.prog w = .ok (.tuple #[.int .i8 0, .bool false]) w := by kernel_rfl
theorem no_float64_5 (v : Value) (w : World) : (Instr.typeAssert (.iface 27 v) 20 53 true).run Tryz.prog w = .ok (.tuple #[.pointer none, .bool false]) w := by kernel_rfl
theorem no_float64_6 (v : Value) (w : World) : (Instr.typeAssert (.iface 27 v) 20 54 true).run Tryz.prog w = .ok (.tuple #[.int .i16 0, .bool false]) w := by kernel_rfl
theorem no_float64_7 (v : Value) (w : World) : (Instr.typeAssert (.iface 27 v) 20 55 true).run Tryz.prog w = .ok (.tuple #[.pointer none, .bool false]) w := by kernel_rfl
theorem no_float64_8 (v : Value) (w : World) : (Instr.typeAssert (.iface 27 v) 20 21 true).run Tryz.prog w = .ok (.tuple #[.int .i32 0, .bool false]) w := by kernel_rfl
theorem no_float64_9 (v : Value) (w : World) : (Instr.typeAssert (.iface 27 v) 20 56 true).run Tryz.prog w = .ok (.tuple #[.pointer none, .bool false]) w := by kernel_rfl
theorem no_float64_10 (v : Value) (w : World) : (Instr.typeAssert (.iface 27 v) 20 2 true).run Tryz.prog w = .ok (.tuple #[.int .i64 0, .bool false]) w := by kernel_rfl
theorem no_float64_11 (v : Value) (w : World) : (Instr.typeAssert (.iface 27 v) 20 57 true).run Tryz.prog w = .ok (.tuple #[.pointer none, .bool false]) w := by kernel_rfl
theorem no_float64_12 (v : Value) (w : World) : (Instr.typeAssert (.iface 27 v) 20 58 true).run Tryz.prog w = .ok (.tuple #[.int .u64 0, .bool false]) w := by kernel_rfl
theorem no_float64_13 (v : Value) (w : World) : (Instr.typeAssert (.iface 27 v) 20 59 true).run Tryz.prog w = .ok (.tuple #[.pointer none, .bool false]) w := by kernel_rfl
theorem no_float64_14 (v : Value) (w : World) : (Instr.typeAssert (.iface 27 v) 20 5 true).run Tryz.prog w = .ok (.tuple #[.int .u8 0, .bool false]) w := by kernel_rfl
theorem no_float64_15 (v : Value) (w : World) : (Instr.typeAssert (.iface 27 v) 20 60 true).run Tryz.prog w = .ok (.tuple #[.pointer none, .bool false]) w := by kernel_rfl
theorem no_float64_16 (v : Value) (w : World) : (Instr.typeAssert (.iface 27 v) 20 61 true).run Tryz.prog w = .ok (.tuple #[.int .u16 0, .bool false]) w := by kernel_rfl
theorem no_float64_17 (v : Value) (w : World) : (Instr.typeAssert (.iface 27 v) 20 62 true).run Tryz.prog w = .ok (.tuple #[.pointer none, .bool false]) w := by kernel_rfl
theorem no_float64_18 (v : Value) (w : World) : (Instr.typeAssert (.iface 27 v) 20 63 true).run Tryz.prog w = .ok (.tuple #[.int .u32 0, .bool false]) w := by kernel_rfl
theorem no_float64_19 (v : Value) (w : World) : (Instr.typeAssert (.iface 27 v) 20 64 true).run Tryz.prog w = .ok (.tuple #[.pointer none, .bool false]) w := by kernel_rfl
theorem no_float64_20 (v : Value) (w : World) : (Instr.typeAssert (.iface 27 v) 20 65 true).run Tryz.prog w = .ok (.tuple #[.int .u64 0, .bool false]) w := by kernel_rfl
theorem no_float64_21 (v : Value) (w : World) : (Instr.typeAssert (.iface 27 v) 20 66 true).run Tryz.prog w = .ok (.tuple #[.pointer none, .bool false]) w := by kernel_rfl
theorem no_float64_22 (v : Value) (w : World) : (Instr.typeAssert (.iface 27 v) 20 67 true).run Tryz.prog w = .ok (.tuple #[.float .f32 0, .bool false]) w := by kernel_rfl
theorem no_float64_23 (v : Value) (w : World) : (Instr.typeAssert (.iface 27 v) 20 68 true).run Tryz.prog w = .ok (.tuple #[.pointer none, .bool false]) w := by kernel_rfl
-- names: as_float64 no_float64_0 no_float64_1 no_float64_2 no_float64_3 no_float64_4 no_float64_5 no_float64_6 no_float64_7 no_float64_8 no_float64_9 no_float64_10 no_float64_11 no_float64_12 no_float64_13 no_float64_14 no_float64_15 no_float64_16 no_float64_17 no_float64_18 no_float64_19 no_float64_20 no_float64_21 no_float64_22 no_float64_23
theorem as_int (v : Value) (w : World) : (Instr.typeAssert (.iface 3 v) 20 3 true).run Tryz.prog w = .ok (.tuple #[v, .bool true]) w := by kernel_rfl
theorem no_int_0 (v : Value) (w : World) : (Instr.typeAssert (.iface 3 v) 20 4 true).run Tryz.prog w = .ok (.tuple #[.bool false, .bool false]) w := by kernel_rfl
-- names: as_int no_int_0
end Go.Proofs.YtaekkifjkgpimaaGreatDoor.Cast
