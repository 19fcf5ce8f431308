/- THE TYPE SWITCHES OF THIS PROGRAM: what an assertion to a pointer type answers. -/
import Derived.Test.YbulkcgzgProg
import Derived.WalkKit
import Derived.WalkSpells
import Derived.WalkLawsBesides
import Derived.RegionTactic
import Derived.Deep.QuietTactic
import Derived.BigQuiet
import Derived.OpenShut
namespace Go.Proofs.Ybulkcgzg
open Go.RowKit

theorem as51y (v : Value) (w : World) : (Instr.typeAssert (.iface 51 v) 29 51 true).run Yba.prog w = .ok (.tuple #[v, .bool true]) w := by kernel_rfl
theorem as51n (u : TypeId) (v : Value) (w : World) (h : u ≠ 51) : (Instr.typeAssert (.iface u v) 29 51 true).run Yba.prog w = .ok (.tuple #[.pointer none, .bool false]) w := by
  have hz : (zeroValue 51).run Yba.prog w = .ok (.pointer none) w := by kernel_rfl
  simp [Instr.typeAssert, run_underlying Yba.underlying51, h, hz]
theorem as60y (v : Value) (w : World) : (Instr.typeAssert (.iface 60 v) 29 60 true).run Yba.prog w = .ok (.tuple #[v, .bool true]) w := by kernel_rfl
theorem as60n (u : TypeId) (v : Value) (w : World) (h : u ≠ 60) : (Instr.typeAssert (.iface u v) 29 60 true).run Yba.prog w = .ok (.tuple #[.pointer none, .bool false]) w := by
  have hz : (zeroValue 60).run Yba.prog w = .ok (.pointer none) w := by kernel_rfl
  simp [Instr.typeAssert, run_underlying Yba.underlying60, h, hz]
theorem as55y (v : Value) (w : World) : (Instr.typeAssert (.iface 55 v) 29 55 true).run Yba.prog w = .ok (.tuple #[v, .bool true]) w := by kernel_rfl
theorem as55n (u : TypeId) (v : Value) (w : World) (h : u ≠ 55) : (Instr.typeAssert (.iface u v) 29 55 true).run Yba.prog w = .ok (.tuple #[.pointer none, .bool false]) w := by
  have hz : (zeroValue 55).run Yba.prog w = .ok (.pointer none) w := by kernel_rfl
  simp [Instr.typeAssert, run_underlying Yba.underlying55, h, hz]
theorem as61y (v : Value) (w : World) : (Instr.typeAssert (.iface 61 v) 29 61 true).run Yba.prog w = .ok (.tuple #[v, .bool true]) w := by kernel_rfl
theorem as61n (u : TypeId) (v : Value) (w : World) (h : u ≠ 61) : (Instr.typeAssert (.iface u v) 29 61 true).run Yba.prog w = .ok (.tuple #[.pointer none, .bool false]) w := by
  have hz : (zeroValue 61).run Yba.prog w = .ok (.pointer none) w := by kernel_rfl
  simp [Instr.typeAssert, run_underlying Yba.underlying61, h, hz]
theorem as58y (v : Value) (w : World) : (Instr.typeAssert (.iface 58 v) 29 58 true).run Yba.prog w = .ok (.tuple #[v, .bool true]) w := by kernel_rfl
theorem as58n (u : TypeId) (v : Value) (w : World) (h : u ≠ 58) : (Instr.typeAssert (.iface u v) 29 58 true).run Yba.prog w = .ok (.tuple #[.pointer none, .bool false]) w := by
  have hz : (zeroValue 58).run Yba.prog w = .ok (.pointer none) w := by kernel_rfl
  simp [Instr.typeAssert, run_underlying Yba.underlying58, h, hz]
theorem as48y (v : Value) (w : World) : (Instr.typeAssert (.iface 48 v) 29 48 true).run Yba.prog w = .ok (.tuple #[v, .bool true]) w := by kernel_rfl
theorem as48n (u : TypeId) (v : Value) (w : World) (h : u ≠ 48) : (Instr.typeAssert (.iface u v) 29 48 true).run Yba.prog w = .ok (.tuple #[.pointer none, .bool false]) w := by
  have hz : (zeroValue 48).run Yba.prog w = .ok (.pointer none) w := by kernel_rfl
  simp [Instr.typeAssert, run_underlying Yba.underlying48, h, hz]
theorem as69y (v : Value) (w : World) : (Instr.typeAssert (.iface 69 v) 29 69 true).run Yba.prog w = .ok (.tuple #[v, .bool true]) w := by kernel_rfl
theorem as69n (u : TypeId) (v : Value) (w : World) (h : u ≠ 69) : (Instr.typeAssert (.iface u v) 29 69 true).run Yba.prog w = .ok (.tuple #[.pointer none, .bool false]) w := by
  have hz : (zeroValue 69).run Yba.prog w = .ok (.pointer none) w := by kernel_rfl
  simp [Instr.typeAssert, run_underlying Yba.underlying69, h, hz]
theorem as75y (v : Value) (w : World) : (Instr.typeAssert (.iface 75 v) 29 75 true).run Yba.prog w = .ok (.tuple #[v, .bool true]) w := by kernel_rfl
theorem as75n (u : TypeId) (v : Value) (w : World) (h : u ≠ 75) : (Instr.typeAssert (.iface u v) 29 75 true).run Yba.prog w = .ok (.tuple #[.pointer none, .bool false]) w := by
  have hz : (zeroValue 75).run Yba.prog w = .ok (.pointer none) w := by kernel_rfl
  simp [Instr.typeAssert, run_underlying Yba.underlying75, h, hz]

theorem hid {p : Prop} (h : p) : Hid p := h
end Go.Proofs.Ybulkcgzg
