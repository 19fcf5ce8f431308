/- THE CONTRACT OF '(*abtcore.Agent).arrange' (function 18) at an agent without arcs and without an order of its own. -/
import Derived.Test.YbulkcgrsStore
import Derived.RegionTactic
import Derived.Deep.RegionHeld3
import Derived.Deep.DrawnRows
namespace Go.Proofs.Ybulkcgrs
open Go.RowKit Go.Proofs.Ybulkcgrs.Kit
attribute [local go_sem ↓] Go.wp_at_zero Go.wp_at_succ

set_option maxHeartbeats 400000 in
set_option maxRecDepth 100000 in
theorem arrange_nil (B : Nat) (c : Value) (w : World) (h8 : w.cell? ⟨B, 8, none⟩ = some (.slice none 0 0)) (f8 : w.frozen? ⟨B, 8, none⟩ = false) (h2 : w.cell? ⟨B, 2, none⟩ = some (.slice none 0 0))
    (h7 : w.cell? ⟨B, 7, none⟩ = some (.slice none 0 0)) (h15 : w.cell? ⟨B, 15, none⟩ = some c) :
    Calls Yba.prog 18 #[.pointer (some ⟨B, 0, none⟩)] w fun e w' => e = .returned (.tuple #[]) ∧ w'.cell? ⟨B, 15, none⟩ = some c ∧ Below B w w' := by
  have hB : B < w.heap.size := by have := World.block_lt_of_cell? w _ h8; simpa using this
  have hnn := fun (w : World) (a : Option Addr) (n c : Nat) => run_neq_slice_nil_any (P := Yba.prog) w 22 3 a n c 0 0 Yba.underlying22
  go_enter Yba.func18, Yba.ntmps18
  go_wp2
  go_region
  go_wp2
  go_loopw [17] (fun i wr => i = .int .i64 0 ∧ wr.cell? ⟨w.heap.size, 0, none⟩ = some (.pointer (some ⟨B, 0, none⟩)) ∧ wr.cell? ⟨B, 7, none⟩ = some (.slice none 0 0) ∧ wr.cell? ⟨B, 15, none⟩ = some c ∧ Below B w wr) (fun i _ => 0)
  case atStart =>
    have hsz : (w.setCell ⟨B, 8, none⟩ (.slice none 0 0)).heap.size = w.heap.size := by simp [World.setCell]
    refine ⟨rfl, ?_, ?_, ?_, ?_⟩
    · rw [World.cell?_drew, World.cell?_alloc_at _ _ _ _ hsz.symm]; rfl
    · rw [World.cell?_drew, World.cell?_alloc_past _ _ _ (by rw [hsz]; exact hB), World.cell?_setCell_other _ _ _ _ (by simp)]; exact h7
    · rw [World.cell?_drew, World.cell?_alloc_past _ _ _ (by rw [hsz]; exact hB), World.cell?_setCell_other _ _ _ _ (by simp)]; exact h15
    · exact (((Below.refl B w).setCell (Nat.le_refl _) _).alloc (by rw [hsz]; omega) _).drew
  case round =>
    obtain ⟨rfl, k0, k7, k15, hBr⟩ := hrel
    go_wp2
    go_end0
    exact ⟨rfl, k15, hBr⟩
end Go.Proofs.Ybulkcgrs
