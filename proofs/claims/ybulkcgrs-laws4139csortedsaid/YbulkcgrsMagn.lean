/- THE CONTRACTS OF 'xcsp3.abs' (function 19), 'xcsp3.zzs4139cabs' (14) AND '(*xcsp3.reader).magnitude' (12). -/
import Derived.Test.YbulkcgrsProg
import Derived.Test.YbulkcgrsKit
import Derived.Deep.QuietTactic
import Derived.BigQuiet
import Derived.Deep.RegionHeld3
import Derived.Deep.DrawnRows
namespace Go.Proofs.Ybulkcgrs
open Go.RowKit Go.Proofs.Ybulkcgrs.Kit
attribute [local go_sem ↓] Go.wp_at_zero Go.wp_at_succ

/-- The absolute value. -/
def mag (v : Int) : Int := if v < 0 then -v else v
/-- The larger of two absolute values. -/
def mag2 (x y : Int) : Int := if mag x < mag y then mag y else mag x
theorem mag_neg {v : Int} (h : v < 0) : mag v = -v := by simp [mag, h]
theorem mag_pos {v : Int} (h : ¬ v < 0) : mag v = v := by simp [mag, h]
theorem ret_int {k : IntKind} {a b : Int} (h : a = b) : Ending.returned (.int k a) = .returned (.int k b) := by rw [h]

set_option maxHeartbeats 400000 in
theorem abs_any (v : Int) (w : World) (h1 : -9223372036854775808 ≤ v) (h2 : v ≤ 9223372036854775807) :
    Calls Yba.prog 19 #[.int .i64 v] w fun e w' => e = .returned (.int .u64 (mag v)) ∧ w' = w := by
  by_cases h : v < 0
  · rw [mag_neg h]
    go_enter Yba.func19, Yba.ntmps19
    go_wp2
    go_ret
    exact ⟨ret_int (show -(v + 1) + 1 = -v by omega), rfl⟩
  · rw [mag_pos h]
    go_enter Yba.func19, Yba.ntmps19
    go_wp2
    go_ret
    exact ⟨rfl, rfl⟩

set_option maxHeartbeats 400000 in
theorem zzabs_any (v : Int) (w : World) (h1 : -9223372036854775808 ≤ v) (h2 : v ≤ 9223372036854775807) :
    Calls Yba.prog 14 #[.int .i64 v] w fun e w' => e = .returned (.int .u64 (mag v)) ∧ w' = w := by
  by_cases h : v < 0
  · rw [mag_neg h]
    go_enter Yba.func14, Yba.ntmps14
    go_wp2
    go_ret
    exact ⟨ret_int (show IntKind.u64.wrap (-IntKind.u64.wrap v) = -v by rw [IntKind.wrap_u64, IntKind.wrap_u64]; omega), rfl⟩
  · rw [mag_pos h]
    go_enter Yba.func14, Yba.ntmps14
    go_wp2
    go_ret
    exact ⟨rfl, rfl⟩

set_option maxHeartbeats 400000 in
set_option maxRecDepth 100000 in
theorem magn_any (B g n c v D o len cap : Nat) (x y : Int) (w : World) (hv : v < n) (_hn : n ≤ 1025) (hl0 : 0 < len) (hl : len ≤ 1024)
    (hx1 : -9223372036854775808 ≤ x) (hx2 : x ≤ 9223372036854775807) (hy1 : -9223372036854775808 ≤ y) (hy2 : y ≤ 9223372036854775807)
    (hr : w.cell? ⟨B, 0, none⟩ = some (.slice (some ⟨g, 0, none⟩) n c)) (hd : w.cell? ⟨g, v * 2 + 1, none⟩ = some (.slice (some ⟨D, o, none⟩) len cap))
    (hx : w.cell? ⟨D, o, none⟩ = some (.int .i64 x)) (hy : w.cell? ⟨D, o + (len - 1), none⟩ = some (.int .i64 y)) :
    Calls Yba.prog 12 #[.pointer (some ⟨B, 0, none⟩), .int .i64 v] w fun e w' => e = .returned (.int .u64 (mag2 x y)) ∧ ∃ q, w' = w.drewN q := by
  have hv0 : (0 : Int) ≤ (v : Int) := by omega
  have hv1 : (v : Int) < (n : Int) := by omega
  have hli0 : (0 : Int) < (len : Int) := by omega
  have hli1 : (0 : Int) ≤ (len : Int) - 1 := by omega
  go_enter Yba.func12, Yba.ntmps12
  go_wp2_with fail
  go_quiet ((go_at_call 19; exact Calls.quiet_of_same (abs_any _ _ (by assumption) (by assumption))))
  go_wp2
  all_goals
    go_ret
    exact ⟨ret_int (by unfold mag2; split <;> omega), _, rfl⟩
end Go.Proofs.Ybulkcgrs
