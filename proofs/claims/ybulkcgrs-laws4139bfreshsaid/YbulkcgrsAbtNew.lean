/- THE CONTRACT OF 'abtcore.New' (function 10) at the local problem that the law makes: variable 0, no arcs, one row of neighbours that is nil, no reorderer. -/
import Derived.Test.YbulkcgrsArrange
import Derived.Deep.QuietTactic
namespace Go.Proofs.Ybulkcgrs
open Go.RowKit Go.Proofs.Ybulkcgrs.Kit
attribute [local go_sem ↓] Go.wp_at_zero Go.wp_at_succ

set_option maxHeartbeats 1000000 in
set_option maxRecDepth 100000 in
theorem abtnew_any (da : Option Addr) (dn dc b : Nat) (w : World) (hn : dn ≤ 1024) (hnb : w.cell? ⟨b, 0, none⟩ = some (.slice none 0 0)) :
    Calls Yba.prog 10 #[.agg #[.int .i64 0, .slice da dn dc, .slice none 0 0, .slice none 0 0, .slice (some ⟨b, 0, none⟩) 1 1], .nilIface] w fun e w' =>
      ∃ B, w.heap.size ≤ B ∧ e = .returned (.pointer (some ⟨B, 0, none⟩)) ∧ w'.cell? ⟨B, 15, none⟩ = some (.int .i64 (-1)) ∧ Below w.heap.size w w' := by
  have hb : b < w.heap.size := by have := World.block_lt_of_cell? w _ hnb; simpa using this
  have hmm := @run_makeMap Yba.prog
  go_enter Yba.func10, Yba.ntmps10
  go_wp2_with fail
  go_region_held3 (fun w' => w'.cell? ⟨w.heap.size, 0, none⟩ = some (.int .i64 0) ∧ w'.cell? ⟨w.heap.size, 1, none⟩ = some (.slice da dn dc) ∧ w'.cell? ⟨w.heap.size, 2, none⟩ = some (.slice none 0 0)) (go_keep)
    (first | (go_at_call 17; refine (newstore_any dn _ (by omega)).mono ?_; rintro e w1 ⟨g, rfl, HB1⟩; have q0 := HB1.cell (p := ⟨w.heap.size, 0, none⟩) (by simp <;> omega); have q1 := HB1.cell (p := ⟨w.heap.size, 1, none⟩) (by simp <;> omega); have q2 := HB1.cell (p := ⟨w.heap.size, 2, none⟩) (by simp <;> omega); have q4 := HB1.cell (p := ⟨w.heap.size, 4, none⟩) (by simp <;> omega); simp at q0 q1 q2 q4))
  · have HBw : Hid (Below w.heap.size w w1) := ((((Below.refl _ w).alloc (Nat.le_refl _) _).alloc (by simp) _).drew).trans (HB1.mono (by simp; omega))
    have hsz : w.heap.size + 1 ≤ w1.heap.size := by have := HB1.size; simp at this; omega
    have qb := (HBw.out.cell (p := ⟨b, 0, none⟩) hb).trans hnb
    have hb1 : b < w1.heap.size := by omega
    have hw1 : w.heap.size < w1.heap.size := by omega
    clear HB1
    go_wp2
    go_loop [29] (fun i => i = .int .i64 0) (fun i => 0)
    case atStart => exact rfl
    case round =>
      obtain rfl := hrel
      go_wp2_with fail
      refine (arrange_nil (w1.heap.size) (.int .i64 (-1)) _ ?_ ?_ ?_ ?_ ?_).mono ?_
      · simp
      · simp
      · simp
      · simp
      · simp
      rintro e w2 ⟨rfl, hc15, hBa⟩
      go_wp2
      go_ret
      exact ⟨w1.heap.size, by omega, rfl, hc15, (HBw.out.alloc (by omega) _).trans (hBa.mono (by omega))⟩
  · have HBw : Hid (Below w.heap.size w w1) := (((Below.refl _ w).alloc (Nat.le_refl _) _).drew).trans (HB1.mono (by simp))
    have hsz : w.heap.size + 1 ≤ w1.heap.size := by have := HB1.size; simp at this; omega
    have qb := (HBw.out.cell (p := ⟨b, 0, none⟩) hb).trans hnb
    have hb1 : b < w1.heap.size := by omega
    have hw1 : w.heap.size < w1.heap.size := by omega
    have hb2 : b < w1.heap.size + 1 := by omega
    have hw2 : w.heap.size < w1.heap.size + 1 := by omega
    clear HB1
    go_wp2
    go_loop [29] (fun i => i = .int .i64 0) (fun i => 0)
    case atStart => exact rfl
    case round =>
      obtain rfl := hrel
      go_wp2_with fail
      refine (arrange_nil (w1.heap.size + 1) (.int .i64 (-1)) _ ?_ ?_ ?_ ?_ ?_).mono ?_
      · simp
      · simp
      · simp
      · simp
      · simp
      rintro e w2 ⟨rfl, hc15, hBa⟩
      go_wp2
      go_ret
      exact ⟨w1.heap.size + 1, by omega, rfl, hc15, ((HBw.out.alloc (by omega) _).alloc (by simp; omega) _).trans (hBa.mono (by omega))⟩
end Go.Proofs.Ybulkcgrs
