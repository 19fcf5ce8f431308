/- THE WALK OF 'afcng.LawS4139AFields', its other ways: an empty or nil domain; no others, or nil. -/
import Derived.Test.YbulkcgrsAFieldsWalk
namespace Go.Proofs.Ybulkcgrs.lawS4139AFields
open Go.RowKit Go.Proofs.Ybulkcgrs.Kit

set_option maxHeartbeats 400000 in
set_option maxRecDepth 100000 in
theorem walk_0n_0 (id : Int) (w : World) :
    Calls Yba.prog 3 #[.int .i64 id, .slice none 0 0, .slice none 0 0] w fun e w' => e = .returned (.bool true) ∧ Below w.heap.size w w' := by
  obtain ⟨i0, hi, hz0, hz1, hz2⟩ := info_parts info26
  have hnn := fun (w : World) (a : Option Addr) (n c : Nat) => run_neq_slice_nil_any (P := Yba.prog) w 22 3 a n c 0 0 Yba.underlying22
  have hen := fun (w : World) (a : Option Addr) (n c : Nat) => Lib.run_eql_slice_nil (P := Yba.prog) w 22 3 a n c 0 0 Yba.underlying22
  have hen2 := fun (w : World) (a : Option Addr) (n c : Nat) => Lib.run_eql_slice_nil (P := Yba.prog) w 23 26 a n c 0 0 Yba.underlying23
  have hnv := fun (w : World) (a : Option Addr) (n c : Nat) => run_neq_slice_nil_any (P := Yba.prog) w 33 _ a n c 0 0 Yba.underlying33
  have hnb := fun (w : World) (a : Option Addr) (n c : Nat) => run_neq_slice_nil_any (P := Yba.prog) w 37 _ a n c 0 0 Yba.underlying37
  obtain ⟨i3, hi3, _, _, _⟩ := info_parts info3
  have hp1 := fun (w : World) (a : Addr) => Lib.run_neq_ptr_same (P := Yba.prog) w a Yba.underlying40 hi3
  have hp2 := fun (w : World) (a : Addr) => Lib.run_neq_ptr_same (P := Yba.prog) w a Yba.underlying41 hi
  go_enter Yba.func3, Yba.ntmps3
  have hBr := Below.refl w.heap.size w
  go_wp2_with fail
  refine (afcnew_any id _ _ _ _ _ _ _ (by omega)).mono ?_
  rintro e w3 ⟨B, hB, rfl, ⟨g0, g1, g2, g3, g4, g6, g7, g8, g9⟩, HB3⟩
  have HB3' : Hid (Below w.heap.size w w3) := (hBr.alloc (by omega) _).trans (HB3.mono (by simp))
  have HK3 : Hid (∀ b o, b < w.heap.size → w3.cell? ⟨b, o, none⟩ = w.cell? ⟨b, o, none⟩) := fun b o h => (HB3.cell (p := ⟨b, o, none⟩) (by simp; omega)).trans (World.cell?_alloc_past _ _ _ h)
  clear HB3 hBr HK3
  go_wp2
  go_quiet (fail)
  go_wp2
  go_loopw [11] (fun i wx => ∃ k q : Nat, k ≤ 0 ∧ i = .int .i64 k ∧ wx = w3.drewN q) (fun i _ => 0 - (intOf i).toNat)
  case atStart => exact ⟨0, _, by omega, rfl, rfl⟩
  case round =>
    obtain ⟨k, q, hk, rfl, rfl⟩ := hrel
    obtain rfl : k = 0 := by omega
    go_wp2
    go_quiet (fail)
    go_wp2
    go_loopw [12] (fun i wx => ∃ k q : Nat, k ≤ 0 ∧ i = .int .i64 k ∧ wx = w3.drewN q) (fun i _ => 0 - (intOf i).toNat)
    case atStart => exact ⟨0, _, by omega, rfl, drew2 _ _ _⟩
    case round =>
      obtain ⟨k2, q2, hk2, rfl, rfl⟩ := hrel
      obtain rfl : k2 = 0 := by omega
      go_wp2
      go_ret
      exact ⟨rfl, below_drewN HB3'.out _⟩

set_option maxHeartbeats 400000 in
set_option maxRecDepth 100000 in
theorem walk_0n_1 (id : Int) (x2 : Addr) (c2 : Nat) (w : World) :
    Calls Yba.prog 3 #[.int .i64 id, .slice none 0 0, .slice (some x2) 0 c2] w fun e w' => e = .returned (.bool true) ∧ Below w.heap.size w w' := by
  obtain ⟨i0, hi, hz0, hz1, hz2⟩ := info_parts info26
  have hnn := fun (w : World) (a : Option Addr) (n c : Nat) => run_neq_slice_nil_any (P := Yba.prog) w 22 3 a n c 0 0 Yba.underlying22
  have hen := fun (w : World) (a : Option Addr) (n c : Nat) => Lib.run_eql_slice_nil (P := Yba.prog) w 22 3 a n c 0 0 Yba.underlying22
  have hen2 := fun (w : World) (a : Option Addr) (n c : Nat) => Lib.run_eql_slice_nil (P := Yba.prog) w 23 26 a n c 0 0 Yba.underlying23
  have hnv := fun (w : World) (a : Option Addr) (n c : Nat) => run_neq_slice_nil_any (P := Yba.prog) w 33 _ a n c 0 0 Yba.underlying33
  have hnb := fun (w : World) (a : Option Addr) (n c : Nat) => run_neq_slice_nil_any (P := Yba.prog) w 37 _ a n c 0 0 Yba.underlying37
  obtain ⟨i3, hi3, _, _, _⟩ := info_parts info3
  have hp1 := fun (w : World) (a : Addr) => Lib.run_neq_ptr_same (P := Yba.prog) w a Yba.underlying40 hi3
  have hp2 := fun (w : World) (a : Addr) => Lib.run_neq_ptr_same (P := Yba.prog) w a Yba.underlying41 hi
  go_enter Yba.func3, Yba.ntmps3
  go_wp2_with (first
    | (at_make; refine wpList_make_full _ rfl _ _ 23 rfl w.heap.size 26 i0 (.agg #[.int .i64 0, .nilFunc, .bool false]) 3 Yba.underlying23 hi hz0 hz1 _ _ _ _ 0 rfl rfl (by omega) (by omega) (by rw [hz2]; omega) (by unfold maxLen; omega) (by simp) ?_; intro w1 hown hgrow; have HG1 : Hid _ := owns_block hown; have HB1 := (Below.refl w.heap.size w).grown hgrow (Nat.le_refl _) (by simp); clear hown hgrow))
  have hN1 : w.heap.size < w1.heap.size := lt_of_block HG1.out
  go_loopw [8] (fun i wr => i = .int .i64 0 ∧ w.heap.size < wr.heap.size ∧ Below w.heap.size w wr) (fun i _ => 0)
  case atStart => exact ⟨rfl, hN1, HB1⟩
  case round =>
    obtain ⟨rfl, hNr, hBr⟩ := hrel
    clear HG1 HB1
    go_wp2_with fail
    refine (afcnew_any id _ _ _ _ _ _ _ (by omega)).mono ?_
    rintro e w3 ⟨B, hB, rfl, ⟨g0, g1, g2, g3, g4, g6, g7, g8, g9⟩, HB3⟩
    have HB3' : Hid (Below w.heap.size w w3) := (hBr.alloc (by omega) _).trans (HB3.mono (by simp; omega))
    have HK3 : Hid (∀ b o, b < wr.heap.size → w3.cell? ⟨b, o, none⟩ = wr.cell? ⟨b, o, none⟩) := fun b o h => (HB3.cell (p := ⟨b, o, none⟩) (by simp; omega)).trans (World.cell?_alloc_past _ _ _ h)
    clear HB3 hBr HK3
    go_wp2
    go_quiet (fail)
    go_wp2
    go_loopw [11] (fun i wx => ∃ k q : Nat, k ≤ 0 ∧ i = .int .i64 k ∧ wx = w3.drewN q) (fun i _ => 0 - (intOf i).toNat)
    case atStart => exact ⟨0, _, by omega, rfl, rfl⟩
    case round =>
      obtain ⟨k, q, hk, rfl, rfl⟩ := hrel
      obtain rfl : k = 0 := by omega
      go_wp2
      go_quiet (fail)
      go_wp2
      go_loopw [12] (fun i wx => ∃ k q : Nat, k ≤ 0 ∧ i = .int .i64 k ∧ wx = w3.drewN q) (fun i _ => 0 - (intOf i).toNat)
      case atStart => exact ⟨0, _, by omega, rfl, drew2 _ _ _⟩
      case round =>
        obtain ⟨k2, q2, hk2, rfl, rfl⟩ := hrel
        obtain rfl : k2 = 0 := by omega
        go_wp2
        go_ret
        exact ⟨rfl, below_drewN HB3'.out _⟩

set_option maxHeartbeats 400000 in
set_option maxRecDepth 100000 in
theorem walk_0n_2 (id : Int) (b2 o2 n2 c2 : Nat) (z2 : List Int) (hl2 : n2 ≤ 4096) (h02 : 0 < n2) (w : World) (hc2 : ∀ j, j < n2 → w.cell? ⟨b2, o2 + j, none⟩ = some (.int .i64 (z2.getD j 0))) :
    Calls Yba.prog 3 #[.int .i64 id, .slice none 0 0, .slice (some ⟨b2, o2, none⟩) n2 c2] w fun e w' => e = .returned (.bool true) ∧ Below w.heap.size w w' := by
  obtain ⟨i0, hi, hz0, hz1, hz2⟩ := info_parts info26
  have hb2 : b2 < w.heap.size := by have := World.block_lt_of_cell? w _ (hc2 0 h02); simpa using this
  have hle2 : (n2 : Int) ≤ 4096 := by omega
  have hlt2 : (0 : Int) < (n2 : Int) := by omega
  have HC2 : Hid (∀ j, j < n2 → w.cell? ⟨b2, o2 + j, none⟩ = some (.int .i64 (z2.getD j 0))) := hc2
  clear hc2
  have hnn := fun (w : World) (a : Option Addr) (n c : Nat) => run_neq_slice_nil_any (P := Yba.prog) w 22 3 a n c 0 0 Yba.underlying22
  have hen := fun (w : World) (a : Option Addr) (n c : Nat) => Lib.run_eql_slice_nil (P := Yba.prog) w 22 3 a n c 0 0 Yba.underlying22
  have hen2 := fun (w : World) (a : Option Addr) (n c : Nat) => Lib.run_eql_slice_nil (P := Yba.prog) w 23 26 a n c 0 0 Yba.underlying23
  have hnv := fun (w : World) (a : Option Addr) (n c : Nat) => run_neq_slice_nil_any (P := Yba.prog) w 33 _ a n c 0 0 Yba.underlying33
  have hnb := fun (w : World) (a : Option Addr) (n c : Nat) => run_neq_slice_nil_any (P := Yba.prog) w 37 _ a n c 0 0 Yba.underlying37
  obtain ⟨i3, hi3, _, _, _⟩ := info_parts info3
  have hp1 := fun (w : World) (a : Addr) => Lib.run_neq_ptr_same (P := Yba.prog) w a Yba.underlying40 hi3
  have hp2 := fun (w : World) (a : Addr) => Lib.run_neq_ptr_same (P := Yba.prog) w a Yba.underlying41 hi
  go_enter Yba.func3, Yba.ntmps3
  go_wp2_with (first
    | (at_make; refine wpList_make_full _ rfl _ _ 23 rfl w.heap.size 26 i0 (.agg #[.int .i64 0, .nilFunc, .bool false]) 3 Yba.underlying23 hi hz0 hz1 _ _ _ _ n2 rfl rfl (by omega) (by omega) (by rw [hz2]; omega) (by unfold maxLen; omega) (by simp) ?_; intro w1 hown hgrow; have HG1 : Hid _ := owns_block hown; have HB1 := (Below.refl w.heap.size w).grown hgrow (Nat.le_refl _) (by simp); clear hown hgrow))
  go_loopw [8] (fun i wr => ∃ m : Nat, m ≤ n2 ∧ i = .int .i64 m ∧ Hid (Room wr w.heap.size (n2 * 3)) ∧ Hid (Nth3 wr w.heap.size m z2) ∧ Below w.heap.size w wr) (fun i _ => n2 - (intOf i).toNat)
  case atStart => exact ⟨0, by omega, rfl, room_of_block HG1.out (by simp [size_madeCells]), fun j hj => absurd hj (by omega), HB1⟩
  case round =>
    obtain ⟨m, hm, rfl, HR, HN, hBr⟩ := hrel
    clear HG1 HB1
    by_cases hlt : m < n2
    · have hx := (hBr.cell (p := ⟨b2, o2 + m, none⟩) hb2).trans (HC2.out m hlt)
      have hm0 : (0 : Int) ≤ (m : Int) := by omega
      have hm1 : (m : Int) < (n2 : Int) := by omega
      obtain ⟨⟨v0, e0⟩, f0⟩ := HR.out (m * 3) (by omega)
      obtain ⟨⟨v1, e1⟩, f1⟩ := HR.out (m * 3 + 1) (by omega)
      obtain ⟨⟨v2, e2⟩, f2⟩ := HR.out (m * 3 + 2) (by omega)
      go_wp2
      go_roundw
      case rel => exact ⟨m + 1, by omega, by go_num, room_set (room_set (room_set HR)), nth3_set e0 HN, ((hBr.setCell (Nat.le_refl _) _).setCell (Nat.le_refl _) _).setCell (Nat.le_refl _) _⟩
      case measure => simp [intOf]; omega
    · have hmn : m = n2 := by omega
      subst hmn
      clear hlt
      have hNr : w.heap.size < wr.heap.size := by
        obtain ⟨⟨v, e⟩, _⟩ := HR.out 0 (by omega)
        simpa using World.block_lt_of_cell? wr _ e
      have HX2 : Hid (∀ j, j < m → wr.cell? ⟨b2, o2 + j, none⟩ = some (.int .i64 (z2.getD j 0))) := fun j hj => (hBr.cell (p := ⟨b2, o2 + j, none⟩) hb2).trans (HC2.out j hj)
      go_wp2_with fail
      refine (afcnew_any id _ _ _ _ _ _ _ (by omega)).mono ?_
      rintro e w3 ⟨B, hB, rfl, ⟨g0, g1, g2, g3, g4, g6, g7, g8, g9⟩, HB3⟩
      have HB3' : Hid (Below w.heap.size w w3) := (hBr.alloc (by omega) _).trans (HB3.mono (by simp; omega))
      have HK3 : Hid (∀ b o, b < wr.heap.size → w3.cell? ⟨b, o, none⟩ = wr.cell? ⟨b, o, none⟩) := fun b o h => (HB3.cell (p := ⟨b, o, none⟩) (by simp; omega)).trans (World.cell?_alloc_past _ _ _ h)
      have HY2 : Hid (∀ j, j < m → w3.cell? ⟨b2, o2 + j, none⟩ = some (.int .i64 (z2.getD j 0))) := fun j hj => (HK3.out _ _ (by omega)).trans (HX2.out j hj)
      have HY3 : Hid (Nth3 w3 w.heap.size m z2) := fun j hj => (HK3.out _ _ (by omega)).trans (HN.out j hj)
      clear HB3 hBr HK3 HR HN HX2
      go_wp2
      go_quiet (fail)
      go_wp2
      go_loopw [11] (fun i wx => ∃ k q : Nat, k ≤ 0 ∧ i = .int .i64 k ∧ wx = w3.drewN q) (fun i _ => 0 - (intOf i).toNat)
      case atStart => exact ⟨0, _, by omega, rfl, rfl⟩
      case round =>
        obtain ⟨k, q, hk, rfl, rfl⟩ := hrel
        obtain rfl : k = 0 := by omega
        go_wp2
        go_quiet (fail)
        go_wp2
        go_loopw [12] (fun i wx => ∃ k q : Nat, k ≤ m ∧ i = .int .i64 k ∧ wx = w3.drewN q) (fun i _ => m - (intOf i).toNat)
        case atStart => exact ⟨0, _, by omega, rfl, drew2 _ _ _⟩
        case round =>
          obtain ⟨k2, q2, hk2, rfl, rfl⟩ := hrel
          by_cases hlt2 : k2 < m
          · have hx := HY2.out k2 hlt2
            have hy := HY3.out k2 hlt2
            have hk0 : (0 : Int) ≤ (k2 : Int) := by omega
            have hk1 : (k2 : Int) < (m : Int) := by omega
            go_wp2
            go_quiet (fail)
            go_wp2
            go_roundw
            case rel => exact ⟨k2 + 1, _, by omega, by go_num, rfl⟩
            case measure => simp [intOf]; omega
          · go_wp2
            go_ret
            exact ⟨rfl, below_drewN HB3'.out _⟩

set_option maxHeartbeats 400000 in
set_option maxRecDepth 100000 in
theorem walk_0s_0 (id : Int) (x1 : Addr) (c1 : Nat) (w : World) :
    Calls Yba.prog 3 #[.int .i64 id, .slice (some x1) 0 c1, .slice none 0 0] w fun e w' => e = .returned (.bool true) ∧ Below w.heap.size w w' := by
  obtain ⟨i0, hi, hz0, hz1, hz2⟩ := info_parts info26
  have hnn := fun (w : World) (a : Option Addr) (n c : Nat) => run_neq_slice_nil_any (P := Yba.prog) w 22 3 a n c 0 0 Yba.underlying22
  have hen := fun (w : World) (a : Option Addr) (n c : Nat) => Lib.run_eql_slice_nil (P := Yba.prog) w 22 3 a n c 0 0 Yba.underlying22
  have hen2 := fun (w : World) (a : Option Addr) (n c : Nat) => Lib.run_eql_slice_nil (P := Yba.prog) w 23 26 a n c 0 0 Yba.underlying23
  have hnv := fun (w : World) (a : Option Addr) (n c : Nat) => run_neq_slice_nil_any (P := Yba.prog) w 33 _ a n c 0 0 Yba.underlying33
  have hnb := fun (w : World) (a : Option Addr) (n c : Nat) => run_neq_slice_nil_any (P := Yba.prog) w 37 _ a n c 0 0 Yba.underlying37
  obtain ⟨i3, hi3, _, _, _⟩ := info_parts info3
  have hp1 := fun (w : World) (a : Addr) => Lib.run_neq_ptr_same (P := Yba.prog) w a Yba.underlying40 hi3
  have hp2 := fun (w : World) (a : Addr) => Lib.run_neq_ptr_same (P := Yba.prog) w a Yba.underlying41 hi
  go_enter Yba.func3, Yba.ntmps3
  have hBr := Below.refl w.heap.size w
  go_wp2_with fail
  refine (afcnew_any id _ _ _ _ _ _ _ (by omega)).mono ?_
  rintro e w3 ⟨B, hB, rfl, ⟨g0, g1, g2, g3, g4, g6, g7, g8, g9⟩, HB3⟩
  have HB3' : Hid (Below w.heap.size w w3) := (hBr.alloc (by omega) _).trans (HB3.mono (by simp))
  have HK3 : Hid (∀ b o, b < w.heap.size → w3.cell? ⟨b, o, none⟩ = w.cell? ⟨b, o, none⟩) := fun b o h => (HB3.cell (p := ⟨b, o, none⟩) (by simp; omega)).trans (World.cell?_alloc_past _ _ _ h)
  clear HB3 hBr HK3
  go_wp2
  go_quiet (fail)
  go_wp2
  go_loopw [11] (fun i wx => ∃ k q : Nat, k ≤ 0 ∧ i = .int .i64 k ∧ wx = w3.drewN q) (fun i _ => 0 - (intOf i).toNat)
  case atStart => exact ⟨0, _, by omega, rfl, rfl⟩
  case round =>
    obtain ⟨k, q, hk, rfl, rfl⟩ := hrel
    obtain rfl : k = 0 := by omega
    go_wp2
    go_quiet (fail)
    go_wp2
    go_loopw [12] (fun i wx => ∃ k q : Nat, k ≤ 0 ∧ i = .int .i64 k ∧ wx = w3.drewN q) (fun i _ => 0 - (intOf i).toNat)
    case atStart => exact ⟨0, _, by omega, rfl, drew2 _ _ _⟩
    case round =>
      obtain ⟨k2, q2, hk2, rfl, rfl⟩ := hrel
      obtain rfl : k2 = 0 := by omega
      go_wp2
      go_ret
      exact ⟨rfl, below_drewN HB3'.out _⟩

end Go.Proofs.Ybulkcgrs.lawS4139AFields
