import Derived.Test.YbulkcgrsValue
namespace Go.Proofs.Ybulkcgrs.lawS4139BExact
open Go.RowKit Go.Proofs.Ybulkcgrs.Kit

theorem info3 : (Yba.prog.info? 3).map (fun i => (i.zero, i.size, i.bytes)) = some (some (.int .i64 0), 1, 8) := by kernel_rfl
theorem size3 : (Yba.prog.info? 3).map (·.size) = some 1 := by kernel_rfl

set_option maxHeartbeats 400000 in
set_option maxRecDepth 100000 in
theorem walkB (b off len0 cap0 : Nat) (zs : List Int) (a1 : Int) (w : World) (hl : len0 ≤ 1024) (h0 : 0 < len0) (hzs : zs.length = len0) (h1 : 0 ≤ a1) (h2 : a1 ≤ 18446744073709551615)
    (hc : ∀ j, j < len0 → w.cell? ⟨b, off + j, none⟩ = some (.int .i64 (zs.getD j 0))) :
    Calls Yba.prog 4 #[.slice (some ⟨b, off, none⟩) len0 cap0, .int .u64 a1, .bool false] w fun e w' => e = .returned (.bool true) ∧ Below w.heap.size w w' := by
  obtain ⟨i0, hi, hz0, hz1, hz2⟩ := info_parts info3
  have hb : b < w.heap.size := by have := World.block_lt_of_cell? w _ (hc 0 h0); simpa using this
  have hle : (len0 : Int) ≤ 1024 := by omega
  have hne : ((len0 : Int) == 0) = false := by simp; omega
  have HC : Hid (∀ j, j < len0 → w.cell? ⟨b, off + j, none⟩ = some (.int .i64 (zs.getD j 0))) := hc
  have Hzs : Hid (zs.length = len0) := hzs
  clear hc hzs
  obtain ⟨cs, hcs⟩ : ∃ cs, cs = zs.map (Value.int .i64) := ⟨_, rfl⟩
  have HCS : Hid (cs = zs.map (Value.int .i64)) := hcs
  obtain ⟨Z, hZ⟩ : ∃ Z, Z = (madeCells (Value.int .i64 0).cells (len0 * 1)).toList := ⟨_, rfl⟩
  have HZ : Hid (Z = (madeCells (Value.int .i64 0).cells (len0 * 1)).toList) := hZ
  have HZl : Hid (0 + cs.length ≤ Z.length) := by show _ ≤ _; rw [hZ, hcs]; simp [size_madeCells, Hzs.out]
  have HCl : Hid (cs.length = Nat.min len0 len0) := by show _ = _; rw [hcs]; simp [Hzs.out]
  clear hZ hcs
  obtain ⟨k, hk⟩ : ∃ k : Nat, (k : Int) = a1 % (len0 : Int) := ⟨(a1 % (len0 : Int)).toNat, by have := Int.emod_nonneg a1 (show (len0 : Int) ≠ 0 by omega); omega⟩
  have hklt : k < len0 := by have := Int.emod_lt_of_pos a1 (show (0 : Int) < len0 by omega); omega
  have hk' : a1 % (len0 : Int) = (k : Int) := hk.symm
  clear hk
  go_enter Yba.func4, Yba.ntmps4
  go_wp2_with (first
    | (at_make; refine wpList_make_full _ rfl _ _ 22 rfl w.heap.size 3 i0 (.int .i64 0) 1 Yba.underlying22 hi hz0 hz1 _ _ _ _ len0 rfl rfl (by omega) (by omega) (by rw [hz2]; omega) (by unfold maxLen; omega) (Nat.le_refl _) ?_; intro w1 hown hgrow; have HG1 : Hid (w1.heap[w.heap.size]? = some (.cells Z.toArray 3 (0, 0))) := (by rw [HZ.out]; exact owns_block hown); have HB1 := (Below.refl w.heap.size w).grown hgrow (Nat.le_refl _) (by simp); clear hown hgrow)
    | (with_reducible (show wpList _ _ _ ({ dst := _, op := Op.call { callee := Callee.builtin Builtin.copy, args := _, argTypes := _ }, type := _, pos := _, after := _, guard := _ } :: _) _ _); (refine wpList_copy_splice (by rfl) (.tmp 19) (.tmp 20) 22 22 (by rfl) 3 Yba.underlying22 size3 (some ⟨w.heap.size, 0, none⟩) (some ⟨b, off, none⟩) len0 len0 len0 cap0 rfl rfl w.heap.size 0 Z 3 HG1.out cs HCl.out (src_cells HB1 hb HCS.out Hzs.out HC.out rfl) HZl.out (ints_one HCS.out) w.heap.size w HB1 (Nat.le_refl _) ?_); intro w2 HG2 hB2; clear HG1 HB1))
  have hN : w.heap.size < w2.heap.size := lt_of_block HG2.out
  have HW2 : Hid (∀ j, j < len0 → w2.cell? ⟨w.heap.size, j, none⟩ = some (.int .i64 (zs.getD j 0))) := copied_cells (by rw [← HCS.out]; exact HG2.out) Hzs.out
  have HB2 : Hid (∀ j, j < len0 → w2.cell? ⟨b, off + j, none⟩ = some (.int .i64 (zs.getD j 0))) := fun j hj => (hB2.cell (p := ⟨b, off + j, none⟩) hb).trans (HC.out j hj)
  have hb2 : b < w2.heap.size := by omega
  have hwk := HW2.out k hklt
  have hbk := HB2.out k hklt
  refine (value_pos w2.heap.size w.heap.size len0 k (zs.getD k 0) _ hklt hl ?_ ?_ ?_).mono ?_
  · simp
  · simp
  · rw [World.cell?_alloc_past _ _ _ hN]; exact hwk
  rintro e w3 ⟨rfl, q, rfl⟩
  go_wp2


  go_loopw [12] (fun i wr => ∃ m : Nat, m ≤ len0 ∧ i = .int .i64 m ∧ Hid (∀ j, j < len0 → wr.cell? ⟨w.heap.size, j, none⟩ = some (.int .i64 (zs.getD j 0))) ∧ Hid (∀ j, j < len0 → wr.cell? ⟨b, off + j, none⟩ = some (.int .i64 (zs.getD j 0))) ∧ Below w.heap.size w wr) (fun i _ => len0 - (intOf i).toNat)
  case atStart =>
    refine ⟨0, by omega, rfl, fun j hj => ?_, fun j hj => ?_, ?_⟩
    · rw [World.cell?_drewN, World.cell?_alloc_past _ _ _ hN]; exact HW2.out j hj
    · rw [World.cell?_drewN, World.cell?_alloc_past _ _ _ (by omega)]; exact HB2.out j hj
    · exact below_drewN (hB2.alloc (by omega) _) _
  case round =>
    obtain ⟨m, hm, rfl, HX, HY, hBr⟩ := hrel
    clear hwk hbk
    by_cases hlt : m < len0
    · have hx := HX.out m hlt
      have hy := HY.out m hlt
      have hm0 : (0 : Int) ≤ (m : Int) := by omega
      have hm1 : (m : Int) < (len0 : Int) := by omega
      go_wp2
      go_quiet (fail)
      go_wp2
      go_roundw
      case rel => exact ⟨m + 1, by omega, by go_num, HX, HY, below_drewN hBr _⟩
      case measure => simp [intOf]; omega
    · go_wp2
      go_ret
      exact ⟨rfl, hBr⟩
set_option maxHeartbeats 400000 in
set_option maxRecDepth 100000 in
theorem walkA (b off len0 cap0 : Nat) (zs : List Int) (a1 : Int) (w : World) (hl : len0 ≤ 1024) (h0 : 0 < len0) (hzs : zs.length = len0) (h1 : 0 ≤ a1) (h2 : a1 ≤ 18446744073709551615)
    (hc : ∀ j, j < len0 → w.cell? ⟨b, off + j, none⟩ = some (.int .i64 (zs.getD j 0))) :
    Calls Yba.prog 4 #[.slice (some ⟨b, off, none⟩) len0 cap0, .int .u64 a1, .bool true] w fun e w' => e = .returned (.bool true) ∧ Below w.heap.size w w' := by
  obtain ⟨i0, hi, hz0, hz1, hz2⟩ := info_parts info3
  have hb : b < w.heap.size := by have := World.block_lt_of_cell? w _ (hc 0 h0); simpa using this
  have hle : (len0 : Int) ≤ 1024 := by omega
  have hne : ((len0 : Int) == 0) = false := by simp; omega
  have HC : Hid (∀ j, j < len0 → w.cell? ⟨b, off + j, none⟩ = some (.int .i64 (zs.getD j 0))) := hc
  have Hzs : Hid (zs.length = len0) := hzs
  clear hc hzs
  obtain ⟨cs, hcs⟩ : ∃ cs, cs = zs.map (Value.int .i64) := ⟨_, rfl⟩
  have HCS : Hid (cs = zs.map (Value.int .i64)) := hcs
  obtain ⟨Z, hZ⟩ : ∃ Z, Z = (madeCells (Value.int .i64 0).cells (len0 * 1)).toList := ⟨_, rfl⟩
  have HZ : Hid (Z = (madeCells (Value.int .i64 0).cells (len0 * 1)).toList) := hZ
  have HZl : Hid (0 + cs.length ≤ Z.length) := by show _ ≤ _; rw [hZ, hcs]; simp [size_madeCells, Hzs.out]
  have HCl : Hid (cs.length = Nat.min len0 len0) := by show _ = _; rw [hcs]; simp [Hzs.out]
  clear hZ hcs
  have hq0 : 0 ≤ a1 % 8 := by omega
  have hq1 : a1 % 8 < 8 := by omega
  go_enter Yba.func4, Yba.ntmps4
  go_wp2_with (first
    | (at_make; refine wpList_make_full _ rfl _ _ 22 rfl w.heap.size 3 i0 (.int .i64 0) 1 Yba.underlying22 hi hz0 hz1 _ _ _ _ len0 rfl rfl (by omega) (by omega) (by rw [hz2]; omega) (by unfold maxLen; omega) (Nat.le_refl _) ?_; intro w1 hown hgrow; have HG1 : Hid (w1.heap[w.heap.size]? = some (.cells Z.toArray 3 (0, 0))) := (by rw [HZ.out]; exact owns_block hown); have HB1 := (Below.refl w.heap.size w).grown hgrow (Nat.le_refl _) (by simp); clear hown hgrow)
    | (with_reducible (show wpList _ _ _ ({ dst := _, op := Op.call { callee := Callee.builtin Builtin.copy, args := _, argTypes := _ }, type := _, pos := _, after := _, guard := _ } :: _) _ _); (refine wpList_copy_splice (by rfl) (.tmp 19) (.tmp 20) 22 22 (by rfl) 3 Yba.underlying22 size3 (some ⟨w.heap.size, 0, none⟩) (some ⟨b, off, none⟩) len0 len0 len0 cap0 rfl rfl w.heap.size 0 Z 3 HG1.out cs HCl.out (src_cells HB1 hb HCS.out Hzs.out HC.out rfl) HZl.out (ints_one HCS.out) w.heap.size w HB1 (Nat.le_refl _) ?_); intro w2 HG2 hB2; clear HG1 HB1))
  have hN : w.heap.size < w2.heap.size := lt_of_block HG2.out
  have HW2 : Hid (∀ j, j < len0 → w2.cell? ⟨w.heap.size, j, none⟩ = some (.int .i64 (zs.getD j 0))) := copied_cells (by rw [← HCS.out]; exact HG2.out) Hzs.out
  have HB2 : Hid (∀ j, j < len0 → w2.cell? ⟨b, off + j, none⟩ = some (.int .i64 (zs.getD j 0))) := fun j hj => (hB2.cell (p := ⟨b, off + j, none⟩) hb).trans (HC.out j hj)
  have hb2 : b < w2.heap.size := by omega
  refine (value_neg w2.heap.size (-1 - a1 % 8) _ (by omega) ?_).mono ?_
  · simp
  rintro e w3 ⟨rfl, rfl⟩
  go_wp2


  go_loopw [12] (fun i wr => ∃ m : Nat, m ≤ len0 ∧ i = .int .i64 m ∧ Hid (∀ j, j < len0 → wr.cell? ⟨w.heap.size, j, none⟩ = some (.int .i64 (zs.getD j 0))) ∧ Hid (∀ j, j < len0 → wr.cell? ⟨b, off + j, none⟩ = some (.int .i64 (zs.getD j 0))) ∧ Below w.heap.size w wr) (fun i _ => len0 - (intOf i).toNat)
  case atStart =>
    refine ⟨0, by omega, rfl, fun j hj => ?_, fun j hj => ?_, ?_⟩
    · rw [World.cell?_alloc_past _ _ _ hN]; exact HW2.out j hj
    · rw [World.cell?_alloc_past _ _ _ (by omega)]; exact HB2.out j hj
    · exact hB2.alloc (by omega) _
  case round =>
    obtain ⟨m, hm, rfl, HX, HY, hBr⟩ := hrel
    by_cases hlt : m < len0
    · have hx := HX.out m hlt
      have hy := HY.out m hlt
      have hm0 : (0 : Int) ≤ (m : Int) := by omega
      have hm1 : (m : Int) < (len0 : Int) := by omega
      go_wp2
      go_quiet (fail)
      go_wp2
      go_roundw
      case rel => exact ⟨m + 1, by omega, by go_num, HX, HY, below_drewN hBr _⟩
      case measure => simp [intOf]; omega
    · go_wp2
      go_ret
      exact ⟨rfl, hBr⟩
set_option maxHeartbeats 400000 in
set_option maxRecDepth 100000 in
theorem walk0 (a0 : Option Addr) (cap0 : Nat) (a1 : Int) (a2 : Bool) (w : World) (h1 : 0 ≤ a1) (h2 : a1 ≤ 18446744073709551615) :
    Calls Yba.prog 4 #[.slice a0 0 cap0, .int .u64 a1, .bool a2] w fun e w' => e = .returned (.bool true) ∧ Below w.heap.size w w' := by
  obtain ⟨i0, hi, hz0, hz1, hz2⟩ := info_parts info3
  have hq0 : 0 ≤ a1 % 8 := by omega
  have hq1 : a1 % 8 < 8 := by omega
  obtain ⟨Z, hZ⟩ : ∃ Z, Z = (madeCells (Value.int .i64 0).cells (0 * 1)).toList := ⟨_, rfl⟩
  have HZ : Hid (Z = (madeCells (Value.int .i64 0).cells (0 * 1)).toList) := hZ
  clear hZ
  cases a2
  all_goals
    go_enter Yba.func4, Yba.ntmps4
    go_wp2_with (first
      | (at_make; refine wpList_make_full _ rfl _ _ 22 rfl w.heap.size 3 i0 (.int .i64 0) 1 Yba.underlying22 hi hz0 hz1 _ _ _ _ 0 rfl rfl (by omega) (by omega) (by rw [hz2]; omega) (by unfold maxLen; omega) (Nat.le_refl _) ?_; intro w1 hown hgrow; have HG1 : Hid (w1.heap[w.heap.size]? = some (.cells Z.toArray 3 (0, 0))) := (by rw [HZ.out]; exact owns_block hown); have HB1 := (Below.refl w.heap.size w).grown hgrow (Nat.le_refl _) (by simp); clear hown hgrow)
      | (with_reducible (show wpList _ _ _ ({ dst := _, op := Op.call { callee := Callee.builtin Builtin.copy, args := _, argTypes := _ }, type := _, pos := _, after := _, guard := _ } :: _) _ _); (refine wpList_copy_splice (by rfl) (.tmp 19) (.tmp 20) 22 22 (by rfl) 3 Yba.underlying22 size3 (some ⟨w.heap.size, 0, none⟩) a0 0 0 0 cap0 rfl rfl w.heap.size 0 Z 3 HG1.out [] (by simp) (by simp) (by simp) (by simp) w.heap.size w HB1 (Nat.le_refl _) ?_); intro w2 HG2 hB2; clear HG1 HB1))
    have hN : w.heap.size < w2.heap.size := lt_of_block HG2.out
    refine (value_neg w2.heap.size (-1 - a1 % 8) _ (by omega) ?_).mono ?_
    · simp
    rintro e w3 ⟨rfl, rfl⟩
    go_wp2
    go_loopw [12] (fun i wr => i = .int .i64 0 ∧ Below w.heap.size w wr) (fun i _ => 0)
    case atStart => exact ⟨rfl, hB2.alloc (by omega) _⟩
    case round =>
      obtain ⟨rfl, hBr⟩ := hrel
      go_wp2
      go_ret
      exact ⟨rfl, hBr⟩

set_option maxRecDepth 100000 in
theorem walkL (a0 : Option Addr) (len0 cap0 : Nat) (a1 : Int) (a2 : Bool) (w : World) (hl : 1024 < len0) :
    Calls Yba.prog 4 #[.slice a0 len0 cap0, .int .u64 a1, .bool a2] w fun e w' => e = .returned (.bool true) ∧ Below w.heap.size w w' := by
  have hl' : (1024 : Int) < (len0 : Int) := by omega
  go_enter Yba.func4, Yba.ntmps4
  go_wp2
  go_ret
  exact ⟨rfl, Below.refl _ _⟩

end Go.Proofs.Ybulkcgrs.lawS4139BExact
