/- THE CONTRACT OF 'children' (function 11). -/
import Derived.Test.YbulkcgzgTree
namespace Go.Proofs.Ybulkcgzg
open Go.RowKit
attribute [local go_sem] as51y as51n as60y as60n as55y as55n as61y as61n as58y as58n as48y as48n

set_option maxHeartbeats 400000 in
set_option maxRecDepth 100000 in
theorem children_leaf (t : TypeId) (x : Value) (w : World) (h1 : t ≠ 51) (h2 : t ≠ 60) (h3 : t ≠ 55) (h4 : t ≠ 61) (h5 : t ≠ 58) (h6 : t ≠ 48) :
    Calls Yba.prog 11 #[.iface t x] w fun e w' => e = .returned (.slice none 0 0) ∧ w' = w := by
  go_enter Yba.func11, Yba.ntmps11
  go_wp2
  go_ret
  exact ⟨rfl, rfl⟩
set_option maxHeartbeats 400000 in
set_option maxRecDepth 100000 in
theorem children_bin51 (g : Nat) (tx ty : TypeId) (vx vy : Value) (w : World) (hx : w.cell? ⟨g, 1, none⟩ = some (.iface tx vx)) (hy : w.cell? ⟨g, 2, none⟩ = some (.iface ty vy)) :
    Calls Yba.prog 11 #[.iface 51 (.pointer (some ⟨g, 0, none⟩))] w fun e w' => e = .returned (.slice (some ⟨w.heap.size, 0, none⟩) 2 2) ∧ w' = (w.alloc (.cells #[.iface tx vx, .iface ty vy] 29)).drew := by
  go_enter Yba.func11, Yba.ntmps11
  go_wp2
  go_region
  all_goals go_wp2
  all_goals go_ret
  all_goals exact ⟨rfl, rfl⟩
set_option maxHeartbeats 400000 in
set_option maxRecDepth 100000 in
theorem children_bin55 (g : Nat) (tx ty : TypeId) (vx vy : Value) (w : World) (hx : w.cell? ⟨g, 1, none⟩ = some (.iface tx vx)) (hy : w.cell? ⟨g, 2, none⟩ = some (.iface ty vy)) :
    Calls Yba.prog 11 #[.iface 55 (.pointer (some ⟨g, 0, none⟩))] w fun e w' => e = .returned (.slice (some ⟨w.heap.size, 0, none⟩) 2 2) ∧ w' = (w.alloc (.cells #[.iface tx vx, .iface ty vy] 29)).drew := by
  go_enter Yba.func11, Yba.ntmps11
  go_wp2
  go_region
  all_goals go_wp2
  all_goals go_ret
  all_goals exact ⟨rfl, rfl⟩
set_option maxHeartbeats 400000 in
set_option maxRecDepth 100000 in
theorem children_bin58 (g : Nat) (tx ty : TypeId) (vx vy : Value) (w : World) (hx : w.cell? ⟨g, 1, none⟩ = some (.iface tx vx)) (hy : w.cell? ⟨g, 2, none⟩ = some (.iface ty vy)) :
    Calls Yba.prog 11 #[.iface 58 (.pointer (some ⟨g, 0, none⟩))] w fun e w' => e = .returned (.slice (some ⟨w.heap.size, 0, none⟩) 2 2) ∧ w' = (w.alloc (.cells #[.iface tx vx, .iface ty vy] 29)).drew := by
  go_enter Yba.func11, Yba.ntmps11
  go_wp2
  go_region
  all_goals go_wp2
  all_goals go_ret
  all_goals exact ⟨rfl, rfl⟩
set_option maxHeartbeats 400000 in
set_option maxRecDepth 100000 in
theorem children_un60 (g : Nat) (tx : TypeId) (vx : Value) (w : World) (hx : w.cell? ⟨g, 0, none⟩ = some (.iface tx vx)) :
    Calls Yba.prog 11 #[.iface 60 (.pointer (some ⟨g, 0, none⟩))] w fun e w' => e = .returned (.slice (some ⟨w.heap.size, 0, none⟩) 1 1) ∧ w' = w.alloc (.cells #[.iface tx vx] 29) := by
  go_enter Yba.func11, Yba.ntmps11
  go_wp2
  go_ret
  exact ⟨rfl, rfl⟩
set_option maxHeartbeats 400000 in
set_option maxRecDepth 100000 in
theorem children_un61 (g : Nat) (tx : TypeId) (vx : Value) (w : World) (hx : w.cell? ⟨g, 0, none⟩ = some (.iface tx vx)) :
    Calls Yba.prog 11 #[.iface 61 (.pointer (some ⟨g, 0, none⟩))] w fun e w' => e = .returned (.slice (some ⟨w.heap.size, 0, none⟩) 1 1) ∧ w' = w.alloc (.cells #[.iface tx vx] 29) := by
  go_enter Yba.func11, Yba.ntmps11
  go_wp2
  go_ret
  exact ⟨rfl, rfl⟩
set_option maxHeartbeats 400000 in
set_option maxRecDepth 100000 in
theorem children_call (g n c : Nat) (a : Option Addr) (w : World) (hx : w.cell? ⟨g, 1, none⟩ = some (.slice a n c)) :
    Calls Yba.prog 11 #[.iface 48 (.pointer (some ⟨g, 0, none⟩))] w fun e w' => e = .returned (.slice a n c) ∧ w' = w := by
  go_enter Yba.func11, Yba.ntmps11
  go_wp2
  go_ret
  exact ⟨rfl, rfl⟩
end Go.Proofs.Ybulkcgzg
