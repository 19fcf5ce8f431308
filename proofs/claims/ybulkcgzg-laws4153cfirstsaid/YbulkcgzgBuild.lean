/- THE CONTRACT OF 'zzs4153cbuild' (function 5), whole. -/
import Derived.Test.YbulkcgzgBuildChain
import Derived.Test.YbulkcgzgBuildNot
import Derived.Test.YbulkcgzgBuildSum
namespace Go.Proofs.Ybulkcgzg
open Go.RowKit

set_option maxHeartbeats 400000 in
set_option maxRecDepth 100000 in
theorem build_zero (sh : Int) (a : Option Addr) (c : Nat) (D : Nat → LeafD) (w : World) :
    Calls Yba.prog 5 #[.agg #[.int .u8 sh, .slice a 0 c]] w fun e w' => ∃ v d, e = .returned v ∧ Tree w' w.heap.size w'.heap.size d v (catU (fun j => leafU (D j)) 0) ∧ Below w.heap.size w w' := by
  obtain ⟨i29, hi, hz0, hz1, hz2⟩ := info_parts info29
  go_enter Yba.func5, Yba.ntmps5
  go_wp2_with (at_make; refine wpList_make_own _ rfl _ _ 27 rfl (w.heap.size + 1) 29 i29 .nilIface 1 Yba.underlying27 hi hz0 hz1 _ _ _ 0 rfl rfl (by omega) (by rw [hz2]; omega) (by unfold maxLen; omega) (by simp) ?_; intro w1 hown hgrow; have hNw1 := (hown.lt _ rfl).2; have hB1 := (Below.refl (w.heap.size + 1) _).grown hgrow (by simp) (by simp); obtain ⟨hsh1, hlv1⟩ := box_cells hB1; have HB1 := hid hB1; clear hown hgrow hB1)
  have hN1 : w.heap.size + 1 < w1.heap.size := by simpa using hNw1
  have HB0 : Hid (Below w.heap.size w w1) := ((Below.refl _ w).alloc (Nat.le_refl _) _).trans (HB1.out.mono (by omega))
  clear HB1 hNw1
  go_loopw [3, 19] (fun xs i wr => i = .int .i64 0 ∧ xs = .slice (some ⟨w.heap.size + 1, 0, none⟩) 0 0 ∧ Hid (Below w.heap.size w wr) ∧ w.heap.size + 1 < wr.heap.size) (fun _ i _ => 0)
  case atStart => exact ⟨rfl, by simp, HB0, hN1⟩
  case round =>
    obtain ⟨rfl, rfl, HBr, hNr⟩ := hrel
    go_wp2_with fail
    go_ret
    refine ⟨_, 1, rfl, .inr (.inr (.inr ⟨wr.heap.size, 0, 0, none, fun _ => .nilIface, fun j => leafU (D j), rfl, ⟨by omega, by simp⟩, by rw [World.cell?_alloc_at _ _ _ _ rfl]; rfl, by omega, fun h => absurd h (by omega), fun j hj => absurd hj (by omega), rfl⟩)), HBr.out.alloc (by omega) _⟩

/-- THE CONTRACT OF THE BUILDER. -/
theorem build_any (sh : Int) (a : Option Addr) (n c : Nat) (D : Nat → LeafD) (w : World) (s1 : 0 ≤ sh) (s2 : sh ≤ 255) (hn : n ≤ 4096) (hr : LeafRow w a n D) :
    Calls Yba.prog 5 #[.agg #[.int .u8 sh, .slice a n c]] w fun e w' => ∃ v d, e = .returned v ∧ Tree w' w.heap.size w'.heap.size d v (catU (fun j => leafU (D j)) n) ∧ Below w.heap.size w w' := by
  obtain ⟨hD, hrow⟩ := hr
  by_cases h0 : n = 0
  · subst h0
    exact build_zero sh a c D w
  obtain ⟨b, o, rfl, hb, hc⟩ := hrow (by omega)
  by_cases k0 : sh % 4 = 0
  · exact build_chain sh b o n c D w s1 s2 hn (by omega) k0 hD hb hc
  by_cases k1 : sh % 4 = 1
  · exact build_call sh b o n c D w s1 s2 hn (by omega) k1 hD hb hc
  by_cases k2 : sh % 4 = 2
  · exact build_sum sh b o n c D w s1 s2 hn (by omega) k2 hD hb hc
  · exact build_not sh b o n c D w s1 s2 hn (by omega) k0 k1 k2 hD hb hc
end Go.Proofs.Ybulkcgzg
