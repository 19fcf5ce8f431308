/- THE WALK OF 'zzs4153cbuild' (function 5): the shape of a call. -/
import Derived.Test.YbulkcgzgBuildParts
namespace Go.Proofs.Ybulkcgzg
open Go.RowKit

theorem box_cells {w w1 : World} {x y : Value} {t : TypeId} (hb : Below (w.heap.size + 1) (w.alloc (.cells #[x, y] t)) w1) : w1.cell? ⟨w.heap.size, 0, none⟩ = some x ∧ w1.cell? ⟨w.heap.size, 1, none⟩ = some y := by
  refine ⟨?_, ?_⟩
  · rw [hb.cell (p := ⟨w.heap.size, 0, none⟩) (by simp)]; simp
  · rw [hb.cell (p := ⟨w.heap.size, 1, none⟩) (by simp)]; simp
theorem info29 : (Yba.prog.info? 29).map (fun i => (i.zero, i.size, i.bytes)) = some (some .nilIface, 1, 16) := by kernel_rfl

/-- The row itself under a call's node. -/
theorem tree_call {w w' : World} {A A' B g X n cap : Nat} {vs : List Value} {U : Nat → List Use} (ho : w.ownsRow B 29 1 (.slice (some ⟨X, 0, none⟩) n cap) n vs) (hx : Xs w A' n vs U) (hA : A ≤ A') (hX : A ≤ X ∧ X < w.heap.size) (hn : n ≤ 4096) (hb : Below w.heap.size w w')
    (hg : A ≤ g ∧ g < w'.heap.size) (h1 : w'.cell? ⟨g, 1, none⟩ = some (.slice (some ⟨X, 0, none⟩) n cap)) : Tree w' A w'.heap.size 1 (.iface 48 (.pointer (some ⟨g, 0, none⟩))) (catU U n) := by
  have hs := hb.size
  have hv : ∀ j, j < n → vs[j]? = some (vs.getD j .nilIface) := fun j hj => by
    obtain ⟨v, h, _⟩ := hx j hj
    simp [List.getD, h]
  refine .inr (.inr (.inr ⟨g, n, cap, some ⟨X, 0, none⟩, fun j => vs.getD j .nilIface, U, rfl, hg, h1, hn, fun _ => ⟨X, rfl, ⟨hX.1, by omega⟩, fun j hj => ?_⟩, fun j hj => ?_, rfl⟩))
  · rw [hb.cell (p := ⟨X, j, none⟩) hX.2]; exact xs_cell ho (hv j hj)
  · obtain ⟨v, h, hl⟩ := hx j hj
    have e : vs.getD j .nilIface = v := by simp [List.getD, h]
    show Leafy w' A w'.heap.size (vs.getD j .nilIface) (U j)
    rw [e]
    exact leafy_kept (fun b o _ h2 => hb.cell (p := ⟨b, o, none⟩) h2) hA hs hl

/-- The leaf at place k, in a later world. -/
theorem xs_at {w w' : World} {A A' B X n cap k : Nat} {vs : List Value} {U : Nat → List Use} (ho : w.ownsRow B 29 1 (.slice (some ⟨X, 0, none⟩) n cap) n vs) (hx : Xs w A' n vs U) (hA : A ≤ A') (hX : X < w.heap.size) (hb : Below w.heap.size w w') (hk : k < n) :
    ∃ (t : TypeId) (x : Value), w'.cell? ⟨X, k, none⟩ = some (.iface t x) ∧ ∀ d, Tree w' A w'.heap.size d (.iface t x) (U k) := by
  obtain ⟨v, h, hl⟩ := hx k hk
  obtain ⟨t, x, rfl⟩ := leafy_iface hl
  refine ⟨t, x, by rw [hb.cell (p := ⟨X, k, none⟩) hX]; exact xs_cell ho h, tree_leaf (leafy_kept (fun b o _ h2 => hb.cell (p := ⟨b, o, none⟩) h2) hA hb.size hl)⟩

set_option maxHeartbeats 1000000 in
set_option maxRecDepth 100000 in
theorem build_call (sh : Int) (b o n c : Nat) (D : Nat → LeafD) (w : World) (s1 : 0 ≤ sh) (s2 : sh ≤ 255) (hn : n ≤ 4096) (h0 : 0 < n) (hs : sh % 4 = 1) (hD : ∀ j, j < n → 0 ≤ (D j).kind ∧ (D j).kind ≤ 255 ∧ 0 ≤ (D j).name ∧ (D j).name ≤ 255) (hb : b < w.heap.size)
    (hc : ∀ j, j < n → w.cell? ⟨b, o + j * 4, none⟩ = some (.int .u8 (D j).kind) ∧ w.cell? ⟨b, o + j * 4 + 1, none⟩ = some (.int .u8 (D j).name) ∧ w.cell? ⟨b, o + j * 4 + 2, none⟩ = some (.int .i64 (D j).line) ∧ w.cell? ⟨b, o + j * 4 + 3, none⟩ = some (.int .i64 (D j).col)) :
    Calls Yba.prog 5 #[.agg #[.int .u8 sh, .slice (some ⟨b, o, none⟩) n c]] w fun e w' => ∃ v d, e = .returned v ∧ Tree w' w.heap.size w'.heap.size d v (catU (fun j => leafU (D j)) n) ∧ Below w.heap.size w w' := by
  obtain ⟨i29, hi, hz0, hz1, hz2⟩ := info_parts info29
  have hle : (n : Int) ≤ 4096 := by omega
  have hne : ((n : Int) == 0) = false := by simp; omega
  have HC := hid hc
  have HD := hid hD
  have b0 : (sh % 4 == 0) = false := by simp [hs]
  have b1 : (sh % 4 == 1) = true := by simp [hs]
  clear hs
  clear hc hD
  go_enter Yba.func5, Yba.ntmps5
  go_wp2_with (at_make; refine wpList_make_own _ rfl _ _ 27 rfl (w.heap.size + 1) 29 i29 .nilIface 1 Yba.underlying27 hi hz0 hz1 _ _ _ n rfl rfl (by omega) (by rw [hz2]; omega) (by unfold maxLen; omega) (by simp) ?_; intro w1 hown hgrow; have HO1 := hid hown; have hNw1 := (hown.lt _ rfl).2; have hB1 := (Below.refl (w.heap.size + 1) _).grown hgrow (by simp) (by simp); obtain ⟨hsh1, hlv1⟩ := box_cells hB1; have HB1 := hid hB1; clear hown hgrow hB1)
  have hN1 : w.heap.size + 1 < w1.heap.size := by simpa using hNw1
  have HB0 : Hid (Below (w.heap.size + 1) (w.alloc (.cells #[.int .u8 sh, .slice (some ⟨b, o, none⟩) n c] 25)) w1) := HB1
  clear HB1 hNw1
  go_loopw [3, 19] (fun xs i wr => ∃ (k : Nat) (vs : List Value), k ≤ n ∧ i = .int .i64 k ∧ xs = .slice (some ⟨w.heap.size + 1, 0, none⟩) k n ∧ Hid (wr.ownsRow (w.heap.size + 1) 29 1 (.slice (some ⟨w.heap.size + 1, 0, none⟩) k n) k vs) ∧ Hid (Xs wr (w.heap.size + 1 + 1) k vs (fun j => leafU (D j))) ∧ Hid (Below (w.heap.size + 1) (w.alloc (.cells #[.int .u8 sh, .slice (some ⟨b, o, none⟩) n c] 25)) wr) ∧ w.heap.size + 1 < wr.heap.size) (fun _ i _ => n - (intOf i).toNat)
  case atStart => exact ⟨0, [], by omega, rfl, by simp, by simpa using HO1, fun j hj => absurd hj (by omega), HB0, hN1⟩
  case round =>
    obtain ⟨k, vs, hk, rfl, rfl, HO, HX, HBr, hNr⟩ := hrel
    clear HO1 HB0 hsh1 hlv1
    have HBw : Hid (Below w.heap.size w wr) := ((Below.refl _ w).alloc (Nat.le_refl _) _).trans (HBr.out.mono (by omega))
    by_cases hkn : k < n
    · have hk0 : (0 : Int) ≤ (k : Int) := by omega
      have hk1 : (k : Int) < (n : Int) := by omega
      obtain ⟨y0, y1, y2, y3⟩ := HC.out k hkn
      have e0 := (HBw.out.cell (p := ⟨b, o + k * 4, none⟩) hb).trans y0
      have e1 := (HBw.out.cell (p := ⟨b, o + k * 4 + 1, none⟩) hb).trans y1
      have e2 := (HBw.out.cell (p := ⟨b, o + k * 4 + 2, none⟩) hb).trans y2
      have e3 := (HBw.out.cell (p := ⟨b, o + k * 4 + 3, none⟩) hb).trans y3
      obtain ⟨d1, d2, d3, d4⟩ := HD.out k hkn
      have HUK : Hid (useOf (D k).kind (D k).name (D k).line (D k).col = leafU (D k)) := rfl
      clear y0 y1 y2 y3
      go_wp2_with fail
      refine (leaf_any (D k).kind (D k).name (D k).line (D k).col _ d1 d2 d3 d4).mono ?_
      rintro e w2 ⟨v, rfl, hlf, hB2⟩
      obtain ⟨tv, xv, rfl⟩ := leafy_iface hlf
      have HLF := hid hlf
      have HB2 := hid hB2
      have hs2 := hB2.size
      simp at hs2
      have HO2 := hid ((own_kept (HO.out.alloc _) hB2))
      clear hlf hB2
      go_wp2_with (at_builtin; refine wpList_append_fits _ rfl (.tmp 23) (.tmp 26) 27 rfl (w.heap.size + 1) 29 i29 1 Yba.underlying27 hi hz1 (w.heap.size + 1) k n vs rfl (HO2.out.alloc _) ⟨w2.heap.size, 0, none⟩ 1 1 [.iface tv xv] rfl (by simp) (one_new _ _ _) (iface_one _ _) (by omega) ?_; intro w4 hown4 hgrow4; have HO4 := hid hown4; have HG4 := hid hgrow4; clear hown4 hgrow4)
      have RS := hid (xs_step (U := fun j => leafU (D j)) HBr.out hNr (by simpa using HO.out.1) HX.out HB2.out HLF.out HG4.out)
      go_wp2_with fail
      go_roundw
      case rel => exact ⟨k + 1, _, by omega, by go_num, rfl, HO4, RS.out.1, RS.out.2.1, RS.out.2.2⟩
      case measure => simp [intOf]; omega
    · obtain rfl : n = k := by omega
      have hsh : wr.cell? ⟨w.heap.size, 0, none⟩ = some (.int .u8 sh) := by
        rw [HBr.out.cell (p := ⟨w.heap.size, 0, none⟩) (by show w.heap.size < _; omega)]; simp
      go_wp2_with fail
      go_ret
      have hB := (Below.refl _ wr).alloc (Nat.le_refl _) (.cells #[.string { data := #[102] }, .slice (some ⟨w.heap.size + 1, 0, none⟩) n n, .bool false, .int .i64 0, .int .i64 0] 50)
      exact ⟨_, 1, rfl, tree_call HO.out HX.out (by omega) ⟨by omega, hNr⟩ hn hB ⟨by omega, by simp⟩ (by rw [World.cell?_alloc_at _ _ _ _ rfl]; rfl), HBw.out.alloc (by omega) _⟩

end Go.Proofs.Ybulkcgzg
