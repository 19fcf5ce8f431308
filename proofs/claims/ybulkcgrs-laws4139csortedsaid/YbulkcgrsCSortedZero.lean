/- THE WALK OF 'xcsp3.LawS4139CSorted' (function 7) at an empty domain. -/
import Derived.Test.YbulkcgrsCSortedWalk
namespace Go.Proofs.Ybulkcgrs.CSorted
open Go.RowKit Go.Proofs.Ybulkcgrs.Kit

theorem best_nil : best [] = 0 := rfl
theorem mag2_self (x : Int) : mag2 x x = mag x := by simp [mag2]

set_option maxHeartbeats 1000000 in
set_option maxRecDepth 100000 in
theorem walk0 (a0 : Option Addr) (cap0 : Nat) (pad : Int) (w : World) (hp1 : -9223372036854775808 ≤ pad) (hp2 : pad ≤ 9223372036854775807) :
    Calls Yba.prog 7 #[.slice a0 0 cap0, .int .i64 pad] w fun e w' => e = .returned (.bool true) ∧ Below w.heap.size w w' := by
  obtain ⟨i0, hi, hz0, hz1, hz2⟩ := info_parts info3
  obtain ⟨Z, hZ⟩ : ∃ Z, Z = (madeCells (Value.int .i64 0).cells (0 * 1)).toList := ⟨_, rfl⟩
  have HZ : Hid (Z = (madeCells (Value.int .i64 0).cells (0 * 1)).toList) := hZ
  clear hZ
  go_enter Yba.func7, Yba.ntmps7
  go_wp2_with (first
    | (at_make; refine wpList_make_full _ rfl _ _ 22 rfl w.heap.size 3 i0 (.int .i64 0) 1 Yba.underlying22 hi hz0 hz1 _ _ _ _ 0 rfl rfl (by omega) (by omega) (by rw [hz2]; omega) (by unfold maxLen; omega) (Nat.le_refl _) ?_; intro w1 hown hgrow; have HG1 : Hid (w1.heap[w.heap.size]? = some (.cells Z.toArray 3 (0, 0))) := (by rw [HZ.out]; exact owns_block hown); have HB1 := (Below.refl w.heap.size w).grown hgrow (Nat.le_refl _) (by simp); clear hown hgrow)
    | (with_reducible (show wpList _ _ _ ({ dst := _, op := Op.call { callee := Callee.builtin Builtin.copy, args := _, argTypes := _ }, type := _, pos := _, after := _, guard := _ } :: _) _ _); (refine wpList_copy_splice (by rfl) (.tmp 19) (.tmp 20) 22 22 (by rfl) 3 Yba.underlying22 size3 (some ⟨w.heap.size, 0, none⟩) a0 0 0 0 cap0 rfl rfl w.heap.size 0 Z 3 HG1.out [] (by simp) (by simp) (by simp) (by simp) w.heap.size w HB1 (Nat.le_refl _) ?_); intro w2 HG2 hB2; clear HG1 HB1))
  have hN : w.heap.size < w2.heap.size := lt_of_block HG2.out
  clear HG2
  refine (Yba.slices_Sort_int_none _ _ _).mono ?_
  rintro e w3 ⟨rfl, rfl⟩
  go_wp2_with fail
  refine (Yba.slices_Compact_int_empty _ _ _).mono ?_
  rintro e w3 ⟨rfl, rfl⟩
  have hpad : ∀ (o1 o2 o3 : Obj), ((((w3.alloc (.cells #[.int .i64 pad] 3)).alloc o1).alloc o2).alloc o3).cell? ⟨w3.heap.size, 0, none⟩ = some (.int .i64 pad) := fun o1 o2 o3 => by
    rw [World.cell?_alloc_past _ _ _ (by simp; omega), World.cell?_alloc_past _ _ _ (by simp; omega), World.cell?_alloc_past _ _ _ (by simp), World.cell?_alloc_at _ _ _ _ rfl]; rfl
  have HP := hid hpad
  clear hpad
  go_wp2_with fail
  refine (magn_any (w3.heap.size + 1 + 1 + 1) (w3.heap.size + 1 + 1) 2 2 1 w3.heap.size 0 1 1 pad pad _ (by omega) (by omega) (by omega) (by omega) hp1 hp2 hp1 hp2 ?_ ?_ ?_ ?_).mono ?_
  · rw [World.cell?_alloc_at _ _ _ _ (by simp)]; rfl
  · rw [World.cell?_alloc_past _ _ _ (by simp), World.cell?_alloc_at _ _ _ _ (by simp)]; rfl
  · exact HP.out _ _ _
  · exact HP.out _ _ _
  rintro e w5 ⟨rfl, q5, rfl⟩
  have h2 := mag2_self pad
  have hnn := mag_nonneg pad
  have hc0 := HP.out (.cells #[.int .i64 0] 3) (.cells #[.string { data := #[] }, .slice (some ⟨w3.heap.size + 1, 0, none⟩) 1 1, .string { data := #[] }, .slice (some ⟨w3.heap.size, 0, none⟩) 1 1] 65) (.cells #[.slice (some ⟨w3.heap.size + 1 + 1, 0, none⟩) 2 2, .slice none 0 0, .map none, .int .i64 0] 73)
  go_wp2_with fail
  go_loop [9, 44] (fun m i => (i = .int .i64 0 ∧ m = .int .u64 0) ∨ (i = .int .i64 1 ∧ m = .int .u64 (mag pad))) (fun _ i => 1 - (intOf i).toNat)
  case atStart => exact .inl ⟨rfl, rfl⟩
  case round =>
    rcases hrel with ⟨rfl, rfl⟩ | ⟨rfl, rfl⟩
    · by_cases hmv : 0 < mag pad
      · go_wp2_with (go_at_call 14; refine (zzabs_any _ _ (by assumption) (by assumption)).mono ?_; rintro e w8 ⟨rfl, rfl⟩)
        go_round
        case rel => exact .inr ⟨rfl, rfl⟩
        case measure => simp [intOf]
      · have hz := hid (show mag pad = 0 by omega)
        go_wp2_with (go_at_call 14; refine (zzabs_any _ _ (by assumption) (by assumption)).mono ?_; rintro e w8 ⟨rfl, rfl⟩)
        go_round
        case rel => exact .inr ⟨rfl, by rw [hz.out]⟩
        case measure => simp [intOf]
    · go_wp2
      go_ret
      exact ⟨rfl, below_drewN ((((hB2.alloc (by omega) _).alloc (by simp; omega) _).alloc (by simp; omega) _).alloc (by simp; omega) _) _⟩
end Go.Proofs.Ybulkcgrs.CSorted
