/- THE WALK OF 'zzs4153cbuild' (function 5): the shape of an alternating chain. -/
import Derived.Test.YbulkcgzgBuildCall
namespace Go.Proofs.Ybulkcgzg
open Go.RowKit

set_option maxHeartbeats 1000000 in
set_option maxRecDepth 100000 in
theorem build_chain (sh : Int) (b o n c : Nat) (D : Nat → LeafD) (w : World) (s1 : 0 ≤ sh) (s2 : sh ≤ 255) (hn : n ≤ 4096) (h0 : 0 < n) (hs : sh % 4 = 0) (hD : ∀ j, j < n → 0 ≤ (D j).kind ∧ (D j).kind ≤ 255 ∧ 0 ≤ (D j).name ∧ (D j).name ≤ 255) (hb : b < w.heap.size)
    (hc : ∀ j, j < n → w.cell? ⟨b, o + j * 4, none⟩ = some (.int .u8 (D j).kind) ∧ w.cell? ⟨b, o + j * 4 + 1, none⟩ = some (.int .u8 (D j).name) ∧ w.cell? ⟨b, o + j * 4 + 2, none⟩ = some (.int .i64 (D j).line) ∧ w.cell? ⟨b, o + j * 4 + 3, none⟩ = some (.int .i64 (D j).col)) :
    Calls Yba.prog 5 #[.agg #[.int .u8 sh, .slice (some ⟨b, o, none⟩) n c]] w fun e w' => ∃ v d, e = .returned v ∧ Tree w' w.heap.size w'.heap.size d v (catU (fun j => leafU (D j)) n) ∧ Below w.heap.size w w' := by
  obtain ⟨i29, hi, hz0, hz1, hz2⟩ := info_parts info29
  have hle : (n : Int) ≤ 4096 := by omega
  have hne : ((n : Int) == 0) = false := by simp; omega
  have HC := hid hc
  have HD := hid hD
  have b0 : (sh % 4 == 0) = true := by simp [hs]
  clear hs
  clear hc hD
  go_enter Yba.func5, Yba.ntmps5
  go_wp2_with (at_make; refine wpList_make_own _ rfl _ _ 27 rfl (w.heap.size + 1) 29 i29 .nilIface 1 Yba.underlying27 hi hz0 hz1 _ _ _ n rfl rfl (by omega) (by rw [hz2]; omega) (by unfold maxLen; omega) (by simp) ?_; intro w1 hown hgrow; have HO1 := hid hown; have hNw1 := (hown.lt _ rfl).2; have hB1 := (Below.refl (w.heap.size + 1) _).grown hgrow (by simp) (by simp); obtain ⟨hsh1, hlv1⟩ := box_cells hB1; have HB1 := hid hB1; clear hown hgrow hB1)
  have hN1 : w.heap.size + 1 < w1.heap.size := by simpa using hNw1
  have HB0 : Hid (Below (w.heap.size + 1) (w.alloc (.cells #[.int .u8 sh, .slice (some ⟨b, o, none⟩) n c] 25)) w1) := HB1
  clear HB1 hNw1
  go_loopw [3, 19] (fun xs i wr => ∃ (k : Nat) (vs : List Value), k ≤ n ∧ i = .int .i64 k ∧ xs = .slice (some ⟨w.heap.size + 1, 0, none⟩) k n ∧ Hid (wr.ownsRow (w.heap.size + 1) 29 1 (.slice (some ⟨w.heap.size + 1, 0, none⟩) k n) k vs) ∧ Hid (Xs wr (w.heap.size + 1 + 1) k vs (fun j => leafU (D j))) ∧ Hid (Below (w.heap.size + 1) (w.alloc (.cells #[.int .u8 sh, .slice (some ⟨b, o, none⟩) n c] 25)) wr) ∧ w.heap.size + 1 < wr.heap.size) (fun _ i _ => n - (intOf i).toNat)
  case atStart => exact ⟨0, [], by omega, rfl, by simp, by simpa using HO1, fun j hj => absurd hj (by omega), HB0, hN1⟩
  case round =>
    obtain ⟨k, vs, hk, rfl, rfl, HO, HX, HBr, hNr⟩ := hrel
    clear HO1 HB0 hsh1 hlv1
    have HBw : Hid (Below w.heap.size w wr) := ((Below.refl _ w).alloc (Nat.le_refl _) _).trans (HBr.out.mono (by omega))
    by_cases hkn : k < n
    · have hk0 : (0 : Int) ≤ (k : Int) := by omega
      have hk1 : (k : Int) < (n : Int) := by omega
      obtain ⟨y0, y1, y2, y3⟩ := HC.out k hkn
      have e0 := (HBw.out.cell (p := ⟨b, o + k * 4, none⟩) hb).trans y0
      have e1 := (HBw.out.cell (p := ⟨b, o + k * 4 + 1, none⟩) hb).trans y1
      have e2 := (HBw.out.cell (p := ⟨b, o + k * 4 + 2, none⟩) hb).trans y2
      have e3 := (HBw.out.cell (p := ⟨b, o + k * 4 + 3, none⟩) hb).trans y3
      obtain ⟨d1, d2, d3, d4⟩ := HD.out k hkn
      have HUK : Hid (useOf (D k).kind (D k).name (D k).line (D k).col = leafU (D k)) := rfl
      clear y0 y1 y2 y3
      go_wp2_with fail
      refine (leaf_any (D k).kind (D k).name (D k).line (D k).col _ d1 d2 d3 d4).mono ?_
      rintro e w2 ⟨v, rfl, hlf, hB2⟩
      obtain ⟨tv, xv, rfl⟩ := leafy_iface hlf
      have HLF := hid hlf
      have HB2 := hid hB2
      have hs2 := hB2.size
      simp at hs2
      have HO2 := hid ((own_kept (HO.out.alloc _) hB2))
      clear hlf hB2
      go_wp2_with (at_builtin; refine wpList_append_fits _ rfl (.tmp 23) (.tmp 26) 27 rfl (w.heap.size + 1) 29 i29 1 Yba.underlying27 hi hz1 (w.heap.size + 1) k n vs rfl (HO2.out.alloc _) ⟨w2.heap.size, 0, none⟩ 1 1 [.iface tv xv] rfl (by simp) (one_new _ _ _) (iface_one _ _) (by omega) ?_; intro w4 hown4 hgrow4; have HO4 := hid hown4; have HG4 := hid hgrow4; clear hown4 hgrow4)
      have RS := hid (xs_step (U := fun j => leafU (D j)) HBr.out hNr (by simpa using HO.out.1) HX.out HB2.out HLF.out HG4.out)
      go_wp2_with fail
      go_roundw
      case rel => exact ⟨k + 1, _, by omega, by go_num, rfl, HO4, RS.out.1, RS.out.2.1, RS.out.2.2⟩
      case measure => simp [intOf]; omega
    · obtain rfl : n = k := by omega
      have hsh : wr.cell? ⟨w.heap.size, 0, none⟩ = some (.int .u8 sh) := by
        rw [HBr.out.cell (p := ⟨w.heap.size, 0, none⟩) (by show w.heap.size < _; omega)]; simp
      rename World => wx
      obtain ⟨t0, x0, hc0, hT0⟩ := xs_at (k := 0) (A := w.heap.size) HO.out HX.out (by omega) hNr (Below.refl _ wx) h0
      have HT0 := hid hT0
      have hn0 : (0 : Int) < (n : Int) := by omega
      clear hT0
      go_wp2_with fail
      go_loopw [6, 7] (fun acc i wq => ∃ (k : Nat) (tv : TypeId) (xv : Value), 1 ≤ k ∧ k ≤ n ∧ i = .int .i64 k ∧ acc = .iface tv xv ∧ Hid (∃ d, Tree wq w.heap.size wq.heap.size d (.iface tv xv) (catU (fun j => leafU (D j)) k)) ∧ Hid (Below wx.heap.size wx wq)) (fun _ i _ => n - (intOf i).toNat)
      case atStart => exact ⟨1, t0, x0, by omega, by omega, rfl, rfl, ⟨0, HT0.out 0⟩, Below.refl _ _⟩
      case round =>
        obtain ⟨k, tv, xv, hk1, hkn', rfl, rfl, HT, HBq⟩ := hrel
        have hsq := HBq.out.size
        by_cases hlt : k < n
        · obtain ⟨ty, xy, hcy, hTy⟩ := xs_at (k := k) (A := w.heap.size) HO.out HX.out (by omega) hNr HBq.out hlt
          have HTY := hid hTy
          have hki0 : (0 : Int) ≤ (k : Int) := by omega
          have hki : (k : Int) < (n : Int) := by omega
          clear hTy
          by_cases hod : (k : Int) % 2 = 1
          · have hob : ((k : Int) % 2 == 1) = true := by simp [hod]
            clear hod
            go_wp2_with fail
            go_roundw
            case rel =>
              obtain ⟨d, hT⟩ := HT.out
              exact ⟨k + 1, 51, _, by omega, by omega, by go_num, rfl, ⟨d + 1, tree_bin (by decide) ((Below.refl _ wr).alloc (Nat.le_refl _) _) ⟨by omega, by simp⟩ (by rw [World.cell?_alloc_at _ _ _ _ rfl]; rfl) (by rw [World.cell?_alloc_at _ _ _ _ rfl]; rfl) hT (HTY.out d)⟩, HBq.out.alloc hsq _⟩
            case measure => simp [intOf]; omega
          · have hob : ((k : Int) % 2 == 1) = false := by simp [hod]
            clear hod
            go_wp2_with fail
            go_roundw
            case rel =>
              obtain ⟨d, hT⟩ := HT.out
              exact ⟨k + 1, 55, _, by omega, by omega, by go_num, rfl, ⟨d + 1, tree_bin (by decide) ((Below.refl _ wr).alloc (Nat.le_refl _) _) ⟨by omega, by simp⟩ (by rw [World.cell?_alloc_at _ _ _ _ rfl]; rfl) (by rw [World.cell?_alloc_at _ _ _ _ rfl]; rfl) hT (HTY.out d)⟩, HBq.out.alloc hsq _⟩
            case measure => simp [intOf]; omega

        · obtain rfl : n = k := by omega
          go_wp2_with fail
          go_ret
          obtain ⟨d, hT⟩ := HT.out
          exact ⟨_, d, rfl, hT, HBw.out.trans (HBq.out.mono (by omega))⟩


end Go.Proofs.Ybulkcgzg
