/- THE CONTRACT OF 'nogood.NewStore' (function 17): a new row of nil pointers; nothing old has turned. -/
import Derived.Test.YbulkcgrsProg
import Derived.Test.YbulkcgrsKit
import Derived.Deep.QuietTactic
import Derived.BigQuiet
namespace Go.Proofs.Ybulkcgrs
open Go.RowKit Go.Proofs.Ybulkcgrs.Kit

theorem info138 : (Yba.prog.info? 138).map (fun i => (i.zero, i.size, i.bytes)) = some (some (.pointer none), 1, 8) := by kernel_rfl

set_option maxHeartbeats 400000 in
set_option maxRecDepth 100000 in
theorem newstore_any (n : Nat) (w : World) (hn : n ≤ 4096) :
    Calls Yba.prog 17 #[.int .i64 n] w fun e w' => ∃ g, e = .returned (.agg #[.slice (some ⟨g, 0, none⟩) n n]) ∧ Below w.heap.size w w' := by
  obtain ⟨i0, hi, hz0, hz1, hz2⟩ := info_parts info138
  have hle : (n : Int) ≤ 4096 := by omega
  go_enter Yba.func17, Yba.ntmps17
  go_wp2_with (first
    | (at_make; refine wpList_make_full _ rfl _ _ 34 rfl w.heap.size 138 i0 (.pointer none) 1 Yba.underlying34 hi hz0 hz1 _ _ _ _ n rfl rfl (by omega) (by omega) (by rw [hz2]; omega) (by unfold maxLen; omega) (by simp) ?_; intro w1 hown hgrow; have HB1 := (Below.refl (w.heap.size + 1) _).grown hgrow (by simp) (by simp); have hk := HB1.cell (p := ⟨w.heap.size, 0, none⟩) (by simp); have hf := HB1.frozen (p := ⟨w.heap.size, 0, none⟩) (by simp); simp at hk hf; clear hown hgrow))
  have hs := World.cell?_setCell_same w1 ⟨w.heap.size, 0, none⟩ (.slice (some ⟨w.heap.size + 1, 0, none⟩) n n) hk
  exact bodyPost_ret (v := .agg #[.slice (some ⟨w.heap.size + 1, 0, none⟩) n n]) (by simp [results, Yba.results17, go_sem, hs]) rfl
    ⟨_, rfl, (((Below.refl _ w).alloc (Nat.le_refl _) _).trans (HB1.mono (by omega))).setCell (by simp) _⟩
end Go.Proofs.Ybulkcgrs
