/- THE CONTRACT OF 'afcng.New' (function 8): a new agent whose cells are told; nothing old has turned. -/
import Derived.Test.YbulkcgrsStore
import Derived.Deep.RegionHeld3
import Derived.Deep.DrawnRows
namespace Go.Proofs.Ybulkcgrs
open Go.RowKit Go.Proofs.Ybulkcgrs.Kit
attribute [local go_sem ↓] Go.wp_at_zero Go.wp_at_succ

/-- An agent of afcng's make lies at block B. -/
def IsAfc (w : World) (B : Nat) (id : Int) (dom arcs : Value) : Prop :=
  w.cell? ⟨B, 0, none⟩ = some (.int .i64 id) ∧ w.cell? ⟨B, 1, none⟩ = some dom ∧ w.cell? ⟨B, 2, none⟩ = some arcs ∧ w.cell? ⟨B, 3, none⟩ = some (.slice none 0 0) ∧ w.cell? ⟨B, 4, none⟩ = some (.bool false) ∧
  w.cell? ⟨B, 6, none⟩ = some (.int .i64 (-1)) ∧ w.cell? ⟨B, 7, none⟩ = some (.int .i64 0) ∧ w.cell? ⟨B, 8, none⟩ = some (.bool false) ∧ w.cell? ⟨B, 9, none⟩ = some (.slice none 0 0)

set_option maxHeartbeats 400000 in
set_option maxRecDepth 100000 in
theorem afcnew_any (id : Int) (da : Option Addr) (dn dc : Nat) (aa : Option Addr) (an ac : Nat) (w : World) (hn : dn ≤ 4096) :
    Calls Yba.prog 8 #[.agg #[.int .i64 id, .slice da dn dc, .slice aa an ac, .slice none 0 0, .slice none 0 0]] w fun e w' =>
      ∃ B, w.heap.size ≤ B ∧ e = .returned (.pointer (some ⟨B, 0, none⟩)) ∧ IsAfc w' B id (.slice da dn dc) (.slice aa an ac) ∧ Below w.heap.size w w' := by
  go_enter Yba.func8, Yba.ntmps8
  go_wp2_with fail
  go_region_held3 (fun w' => w'.cell? ⟨w.heap.size, 0, none⟩ = some (.int .i64 id) ∧ w'.cell? ⟨w.heap.size, 1, none⟩ = some (.slice da dn dc) ∧ w'.cell? ⟨w.heap.size, 2, none⟩ = some (.slice aa an ac)) (go_keep)
    (first | (go_at_call 17; refine (newstore_any dn _ hn).mono ?_; rintro e w1 ⟨g, rfl, HB1⟩; have q0 := HB1.cell (p := ⟨w.heap.size, 0, none⟩) (by simp); have q1 := HB1.cell (p := ⟨w.heap.size, 1, none⟩) (by simp); have q2 := HB1.cell (p := ⟨w.heap.size, 2, none⟩) (by simp); simp at q0 q1 q2))
  have hsz : w.heap.size + 1 ≤ w1.heap.size := by have := HB1.size; simpa using this
  have HB : Hid (Below w.heap.size w w1) := ((((Below.refl _ w).alloc (Nat.le_refl _) _).drew).trans (HB1.mono (by simp)))
  go_wp2
  go_ret
  exact ⟨w1.heap.size, by omega, rfl, ⟨by simp, by simp, by simp, by simp, by simp, by simp, by simp, by simp, by simp⟩, HB.out.alloc (by omega) _⟩
end Go.Proofs.Ybulkcgrs
