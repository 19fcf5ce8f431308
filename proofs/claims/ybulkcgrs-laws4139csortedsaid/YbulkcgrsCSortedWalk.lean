/- THE WALK OF 'xcsp3.LawS4139CSorted' (function 7). -/
import Derived.Test.YbulkcgrsCSortedPlain
import Derived.Test.YbulkcgrsShelfB
namespace Go.Proofs.Ybulkcgrs.CSorted
open Go.RowKit Go.Proofs.Ybulkcgrs.Kit Go.Sort

theorem info3 : (Yba.prog.info? 3).map (fun i => (i.zero, i.size, i.bytes)) = some (some (.int .i64 0), 1, 8) := by kernel_rfl
theorem size3 : (Yba.prog.info? 3).map (·.size) = some 1 := by kernel_rfl
theorem hid {p : Prop} (h : p) : Hid p := h

set_option maxRecDepth 100000 in
theorem walkL (a : Option Addr) (len cap : Nat) (pad : Int) (w : World) (hl : 1024 < len) :
    Calls Yba.prog 7 #[.slice a len cap, .int .i64 pad] w fun e w' => e = .returned (.bool true) ∧ Below w.heap.size w w' := by
  have hl' : (1024 : Int) < (len : Int) := by omega
  go_enter Yba.func7, Yba.ntmps7
  go_wp2
  go_ret
  exact ⟨rfl, Below.refl _ _⟩

theorem getD_bound {zs : List Int} (h : ∀ n ∈ zs, -9223372036854775808 ≤ n ∧ n ≤ 9223372036854775807) (j : Nat) : -9223372036854775808 ≤ zs.getD j 0 ∧ zs.getD j 0 ≤ 9223372036854775807 := by
  by_cases hj : j < zs.length
  · have := h zs[j] (List.getElem_mem hj)
    simpa [List.getD, hj] using this
  · simp [List.getD, hj]
theorem take_snoc (c : List Int) (k : Nat) (h : k < c.length) : c.take (k + 1) = c.take k ++ [c.getD k 0] := by
  rw [List.take_succ_eq_append_getElem h, getD_of_lt h]
theorem better_yes {m x : Int} (h : m < mag x) : better m x = mag x := by simp [better, h]
theorem better_no {m x : Int} (h : mag x ≤ m) : better m x = m := by unfold better; split <;> omega
theorem row_cell {w : World} {N j : Nat} {c t : List Int} (h : Holds (Value.int .i64) w N 0 (c ++ t).toArray) (hj : j < c.length) : w.cell? ⟨N, j, none⟩ = some (.int .i64 (c.getD j 0)) := by
  have h1 := (h j (by simp; omega)).1
  rw [Nat.zero_add] at h1
  rw [h1]
  simp [List.getElem?_append, hj]

set_option maxHeartbeats 1000000 in
set_option maxRecDepth 100000 in
theorem walkP (b off cap0 : Nat) (zs : List Int) (pad : Int) (w : World) (hl : zs.length ≤ 1024) (h0 : 0 < zs.length) (hzb : ∀ n ∈ zs, -9223372036854775808 ≤ n ∧ n ≤ 9223372036854775807)
    (hc : ∀ j, j < zs.length → w.cell? ⟨b, off + j, none⟩ = some (.int .i64 (zs.getD j 0))) :
    Calls Yba.prog 7 #[.slice (some ⟨b, off, none⟩) zs.length cap0, .int .i64 pad] w fun e w' => e = .returned (.bool true) ∧ Below w.heap.size w w' := by
  obtain ⟨i0, hi, hz0, hz1, hz2⟩ := info_parts info3
  have hb : b < w.heap.size := by have := World.block_lt_of_cell? w _ (hc 0 h0); simpa using this
  have hle : (zs.length : Int) ≤ 1024 := by omega
  have HC : Hid (∀ j, j < zs.length → w.cell? ⟨b, off + j, none⟩ = some (.int .i64 (zs.getD j 0))) := hc
  have HZB : Hid (∀ n ∈ zs, -9223372036854775808 ≤ n ∧ n ≤ 9223372036854775807) := hzb
  clear hc hzb
  obtain ⟨cs, hcs⟩ : ∃ cs, cs = zs.map (Value.int .i64) := ⟨_, rfl⟩
  have HCS : Hid (cs = zs.map (Value.int .i64)) := hcs
  obtain ⟨Z, hZ⟩ : ∃ Z, Z = (madeCells (Value.int .i64 0).cells (zs.length * 1)).toList := ⟨_, rfl⟩
  have HZ : Hid (Z = (madeCells (Value.int .i64 0).cells (zs.length * 1)).toList) := hZ
  have HZl : Hid (0 + cs.length ≤ Z.length) := by show _ ≤ _; rw [hZ, hcs]; simp [size_madeCells]
  have HCl : Hid (cs.length = Nat.min zs.length zs.length) := by show _ = _; rw [hcs]; simp
  clear hZ hcs
  go_enter Yba.func7, Yba.ntmps7
  go_wp2_with (first
    | (at_make; refine wpList_make_full _ rfl _ _ 22 rfl w.heap.size 3 i0 (.int .i64 0) 1 Yba.underlying22 hi hz0 hz1 _ _ _ _ zs.length rfl rfl (by omega) (by omega) (by rw [hz2]; omega) (by unfold maxLen; omega) (Nat.le_refl _) ?_; intro w1 hown hgrow; have HG1 : Hid (w1.heap[w.heap.size]? = some (.cells Z.toArray 3 (0, 0))) := (by rw [HZ.out]; exact owns_block hown); have HB1 := (Below.refl w.heap.size w).grown hgrow (Nat.le_refl _) (by simp); clear hown hgrow)
    | (with_reducible (show wpList _ _ _ ({ dst := _, op := Op.call { callee := Callee.builtin Builtin.copy, args := _, argTypes := _ }, type := _, pos := _, after := _, guard := _ } :: _) _ _); (refine wpList_copy_splice (by rfl) (.tmp 19) (.tmp 20) 22 22 (by rfl) 3 Yba.underlying22 size3 (some ⟨w.heap.size, 0, none⟩) (some ⟨b, off, none⟩) zs.length zs.length zs.length cap0 rfl rfl w.heap.size 0 Z 3 HG1.out cs HCl.out (src_cells HB1 hb HCS.out rfl HC.out rfl) HZl.out (ints_one HCS.out) w.heap.size w HB1 (Nat.le_refl _) ?_); intro w2 HG2 hB2; clear HG1 HB1))
  have hN : w.heap.size < w2.heap.size := lt_of_block HG2.out
  have H2 : Holds (Value.int .i64) w2 w.heap.size 0 zs.toArray := holds_copied (by rw [← HCS.out]; exact HG2.out)
  have H2' := hid H2
  clear H2 HG2
  refine (Yba.slices_Sort_int w.heap.size 0 zs.length zs _ H2'.out hN (by omega)).mono ?_
  rintro e w3 ⟨rfl, n, os, hw3⟩
  have hs := holds_sorted (n := n) (os := os) (ys := zs.mergeSort fun x y => decide (x ≤ y)) H2'.out hN (by simp)
  rw [← hw3] at hs
  have H3 := hid hs.1
  have hB3 : Below w.heap.size w w3 := hB2.trans hs.2
  clear hs hw3 H2' hB2
  have hsl : (zs.mergeSort fun x y => decide (x ≤ y)).length = zs.length := by simp
  have KC := Yba.slices_Compact_int w.heap.size 0 zs.length (zs.mergeSort fun x y => decide (x ≤ y)) w3 H3.out (by rw [hsl]; omega) (by rw [hsl]; omega)
  rw [hsl] at KC
  have c1 := dom_sorted zs
  have c2 := dom_pos zs h0
  have c3 := dom_le zs
  have c4 : ∀ x ∈ dom zs, -9223372036854775808 ≤ x ∧ x ≤ 9223372036854775807 := fun x hx => HZB.out x (dom_mem zs hx)
  unfold dom at c1 c2 c3 c4
  generalize Lib.compact (zs.mergeSort fun x y => decide (x ≤ y)) = c at KC c1 c2 c3 c4
  have hbest := best_sorted c2 c1
  have hx0 := getD_bound c4 0
  have hy0 := getD_bound c4 (c.length - 1)
  obtain ⟨x, hx⟩ : ∃ x, x = c.getD 0 0 := ⟨_, rfl⟩
  obtain ⟨y, hy⟩ : ∃ y, y = c.getD (c.length - 1) 0 := ⟨_, rfl⟩
  rw [← hx] at hx0 hbest
  rw [← hy] at hy0 hbest
  have HX := hid hx
  have HY := hid hy
  have HBEST := hid hbest
  have HK := hid KC
  have HC4 := hid c4
  obtain ⟨hx1, hx2⟩ := hx0
  obtain ⟨hy1, hy2⟩ := hy0
  obtain ⟨L, hL⟩ : ∃ L, L = c.length := ⟨_, rfl⟩
  have HL := hid hL
  clear KC hsl c1 c4 hx hy hbest
  go_wp2_with fail
  refine HK.out.mono ?_
  rintro e w4 ⟨rfl, q, hw4⟩
  have hp := holds_put (q := q) (ys := c ++ List.replicate (zs.length - c.length) 0) H3.out (by simp; omega)
  rw [← hw4] at hp
  have HW4 : Hid (∀ j, j < L → w4.cell? ⟨w.heap.size, j, none⟩ = some (.int .i64 (c.getD j 0))) := fun j hj => row_cell hp.1 (by rw [← HL.out]; exact hj)
  have hB4 : RowKit.Below w.heap.size w w4 := hB3.trans hp.2.1
  rw [← hL] at c2 c3 ⊢
  clear hp hw4 HK H3 hB3 hL
  have hL0 : (0 : Int) < (L : Int) := by omega
  have hL1 : (L : Int) ≤ 1024 := by omega
  have hLe : ((L : Int) == 0) = false := by simp; omega
  have hN4 : w.heap.size < w4.heap.size := by have := World.block_lt_of_cell? w4 _ (HW4.out 0 c2); simpa using this
  have hN5 : w.heap.size < w4.heap.size + 1 := by omega
  have hN6 : w.heap.size < w4.heap.size + 1 + 1 := by omega
  have HPAST : Hid (∀ (o1 o2 o3 : Obj) (j : Nat), (((w4.alloc o1).alloc o2).alloc o3).cell? ⟨w.heap.size, j, none⟩ = w4.cell? ⟨w.heap.size, j, none⟩) := fun o1 o2 o3 j => by
    rw [World.cell?_alloc_past _ _ _ (by simp; omega), World.cell?_alloc_past _ _ _ (by simp; omega), World.cell?_alloc_past _ _ _ hN4]
  go_wp2_with fail
  refine (magn_any (w4.heap.size + 1 + 1) (w4.heap.size + 1) 2 2 1 w.heap.size 0 L zs.length x y _ (by omega) (by omega) c2 (by omega) hx1 hx2 hy1 hy2 ?_ ?_ ?_ ?_).mono ?_
  · rw [World.cell?_alloc_at _ _ _ _ (by simp)]; rfl
  · rw [World.cell?_alloc_past _ _ _ (by simp), World.cell?_alloc_at _ _ _ _ (by simp)]; rfl
  · rw [HPAST.out, HW4.out 0 c2, ← HX.out]
  · rw [HPAST.out, Nat.zero_add, HW4.out (L - 1) (by omega), HY.out, ← HL.out]
  rintro e w5 ⟨rfl, q5, rfl⟩
  go_wp2_with fail
  go_loop [9, 44] (fun m i => ∃ k : Nat, k ≤ L ∧ i = .int .i64 k ∧ m = .int .u64 (best (c.take k))) (fun _ i => L - (intOf i).toNat)
  case atStart => exact ⟨0, by omega, rfl, rfl⟩
  case round =>
    obtain ⟨k, hk, rfl, rfl⟩ := hrel
    by_cases hlt : k < L
    · have hk0 : (0 : Int) ≤ (k : Int) := by omega
      have hk1 : (k : Int) < (L : Int) := by omega
      have hck := HW4.out k hlt
      have hzk := getD_bound HC4.out k
      have hsn : best (c.take (k + 1)) = better (best (c.take k)) (c.getD k 0) := by
        rw [take_snoc c k (by rw [← HL.out]; exact hlt), best_snoc]
      obtain ⟨v, hv⟩ : ∃ v, v = c.getD k 0 := ⟨_, rfl⟩
      obtain ⟨B, hB⟩ : ∃ B, B = best (c.take k) := ⟨_, rfl⟩
      rw [← hv] at hck hzk hsn
      rw [← hB] at hsn ⊢
      have HS := hid hsn
      clear hsn hv hB
      obtain ⟨hv1, hv2⟩ := hzk
      by_cases hmv : B < mag v
      · go_wp2_with (go_at_call 14; refine (zzabs_any _ _ (by assumption) (by assumption)).mono ?_; rintro e w8 ⟨rfl, rfl⟩)
        go_round
        case rel => exact ⟨k + 1, by omega, by go_num, by rw [HS.out, better_yes (by omega)]⟩
        case measure => simp [intOf]; omega
      · go_wp2_with (go_at_call 14; refine (zzabs_any _ _ (by assumption) (by assumption)).mono ?_; rintro e w8 ⟨rfl, rfl⟩)
        go_round
        case rel => exact ⟨k + 1, by omega, by go_num, by rw [HS.out, better_no (by omega)]⟩
        case measure => simp [intOf]; omega
    · have ek : best (c.take k) = mag2 x y := by rw [List.take_of_length_le (by rw [← HL.out]; omega)]; exact HBEST.out
      rw [ek]
      clear ek
      go_wp2
      go_ret
      exact ⟨rfl, below_drewN (((hB4.alloc (by omega) _).alloc (by simp; omega) _).alloc (by simp; omega) _) _⟩
end Go.Proofs.Ybulkcgrs.CSorted
