/- THE CONTRACT OF '(*abtcore.Agent).Value' (function 9): 0 at a negative index; else the domain's element. -/
import Derived.Test.YbulkcgrsProg
import Derived.Test.YbulkcgrsKit
import Derived.Deep.QuietTactic
import Derived.BigQuiet
namespace Go.Proofs.Ybulkcgrs
open Go.RowKit Go.Proofs.Ybulkcgrs.Kit

set_option maxHeartbeats 400000 in
set_option maxRecDepth 100000 in
theorem value_neg (B : Nat) (c : Int) (w : World) (hc : c < 0) (hcur : w.cell? ⟨B, 15, none⟩ = some (.int .i64 c)) :
    Calls Yba.prog 9 #[.pointer (some ⟨B, 0, none⟩)] w fun e w' => e = .returned (.int .i64 0) ∧ w' = w := by
  go_enter Yba.func9, Yba.ntmps9
  go_wp2
  go_ret
  exact ⟨rfl, rfl⟩

set_option maxHeartbeats 400000 in
set_option maxRecDepth 100000 in
theorem value_pos (B N n k : Nat) (z : Int) (w : World) (hk : k < n) (_hn : n ≤ 1024) (hcur : w.cell? ⟨B, 15, none⟩ = some (.int .i64 k)) (hdom : w.cell? ⟨B, 1, none⟩ = some (.slice (some ⟨N, 0, none⟩) n n))
    (hz : w.cell? ⟨N, k, none⟩ = some (.int .i64 z)) :
    Calls Yba.prog 9 #[.pointer (some ⟨B, 0, none⟩)] w fun e w' => e = .returned (.int .i64 z) ∧ ∃ q, w' = w.drewN q := by
  have hk0 : (0 : Int) ≤ (k : Int) := by omega
  have hk1 : (k : Int) < (n : Int) := by omega
  go_enter Yba.func9, Yba.ntmps9
  go_wp2
  go_quiet (fail)
  go_wp2
  go_ret
  exact ⟨rfl, _, rfl⟩
end Go.Proofs.Ybulkcgrs
