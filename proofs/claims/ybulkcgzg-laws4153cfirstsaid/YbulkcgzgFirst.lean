/- THE CONTRACT OF 'firstUse' (function 6). -/
import Derived.Test.YbulkcgzgWalk
namespace Go.Proofs.Ybulkcgzg
open Go.RowKit

/-- The trees of a rule's events, in a row at block E. -/
def Events (w : World) (A B E n : Nat) (U : Nat → List Use) : Prop := ∀ j, j < n → ∃ v d, w.cell? ⟨E, j, none⟩ = some v ∧ Tree w A B d v (U j)

/-- The place that is handed back. -/
def posOf (m : Option (Int × Int)) : Int × Int := m.getD (0, 0)

theorem frozen_new (w : World) (c : Array Value) (t : TypeId) (n i : Nat) (hn : n = w.heap.size) : (w.alloc (.cells c t)).frozen? ⟨n, i, none⟩ = false := by subst hn; simp
theorem two_set {w : World} {N : Nat} {u v : Value} (x y : Value) (h0 : w.cell? ⟨N, 0, none⟩ = some u) (h1 : w.cell? ⟨N, 1, none⟩ = some v) :
    ((w.setCell ⟨N, 0, none⟩ x).setCell ⟨N, 1, none⟩ y).cell? ⟨N, 0, none⟩ = some x ∧ ((w.setCell ⟨N, 0, none⟩ x).setCell ⟨N, 1, none⟩ y).cell? ⟨N, 1, none⟩ = some y := by
  refine ⟨?_, ?_⟩
  · rw [World.cell?_setCell_other _ _ _ _ (by simp)]; exact World.cell?_setCell_same w _ _ h0
  · exact World.cell?_setCell_same _ _ _ (by rw [World.cell?_setCell_other _ _ _ _ (by simp)]; exact h1)
theorem no_more {nm : ByteArray} {U : Nat → List Use} {k : Nat} (h1 : findU nm (catU U k) = none) (h2 : findU nm (U k) = none) : findU nm (catU U (k + 1)) = none := by
  show findU nm (catU U k ++ U k) = none
  rw [findU_append, h1]; exact h2
theorem found_at {nm : ByteArray} {U : Nat → List Use} {k : Nat} {p : Int × Int} (h1 : findU nm (catU U k) = none) (h2 : findU nm (U k) = some p) : ∀ n, k < n → findU nm (catU U n) = some p := by
  intro n hn
  obtain ⟨m, rfl⟩ : ∃ m, n = k + 1 + m := ⟨n - (k + 1), by omega⟩
  clear hn
  induction m with
  | zero =>
    show findU nm (catU U k ++ U k) = some p
    rw [findU_append, h1]; exact h2
  | succ m ih =>
    show findU nm (catU U (k + 1 + m) ++ U (k + 1 + m)) = some p
    rw [findU_append, ih]; rfl

set_option maxHeartbeats 400000 in
set_option maxRecDepth 100000 in
theorem first_any (A R E n c : Nat) (U : Nat → List Use) (nm : ByteArray) (w : World) (hn : n ≤ 512) (hE : E < w.heap.size) (hR : w.cell? ⟨R, 5, none⟩ = some (.slice (some ⟨E, 0, none⟩) n c)) (hev : Events w A w.heap.size E n U) :
    Calls Yba.prog 6 #[.pointer (some ⟨R, 0, none⟩), .string nm] w fun e w' => e = .returned (.agg #[.int .i64 (posOf (findU nm (catU U n))).1, .int .i64 (posOf (findU nm (catU U n))).2]) ∧ Below w.heap.size w w' := by
  have hRl : R < w.heap.size := by have := World.block_lt_of_cell? w _ hR; simpa using this
  have hle : (n : Int) ≤ 512 := by omega
  have HE := hid hev
  clear hev
  go_enter Yba.func6, Yba.ntmps6
  go_wp2_with fail
  go_loopw [13] (fun i wr => ∃ k : Nat, k ≤ n ∧ i = .int .i64 k ∧ Hid (findU nm (catU U k) = none) ∧ Hid (Below (w.heap.size + 2) ((w.alloc (.cells #[.string nm] 9)).alloc (.cells #[.int .i64 0, .int .i64 0] 33)) wr)) (fun i _ => n - (intOf i).toNat)
  case atStart => exact ⟨0, by omega, rfl, rfl, Below.refl _ _⟩
  case round =>
    obtain ⟨k, hk, rfl, HF, HBr⟩ := hrel
    have hsz : w.heap.size + 2 ≤ wr.heap.size := by have := HBr.out.size; simpa using this
    have hNM : wr.cell? ⟨w.heap.size, 0, none⟩ = some (.string nm) := by
      rw [HBr.out.cell (p := ⟨w.heap.size, 0, none⟩) (by show w.heap.size < _; omega), World.cell?_alloc_past _ _ _ (by simp)]; simp
    have hr0 : wr.cell? ⟨w.heap.size + 1, 0, none⟩ = some (.int .i64 0) := by
      rw [HBr.out.cell (p := ⟨w.heap.size + 1, 0, none⟩) (by show w.heap.size + 1 < _; omega), World.cell?_alloc_at _ _ _ _ (by simp)]; rfl
    have hr1 : wr.cell? ⟨w.heap.size + 1, 1, none⟩ = some (.int .i64 0) := by
      rw [HBr.out.cell (p := ⟨w.heap.size + 1, 1, none⟩) (by show w.heap.size + 1 < _; omega), World.cell?_alloc_at _ _ _ _ (by simp)]; rfl
    have hf0 : wr.frozen? ⟨w.heap.size + 1, 0, none⟩ = false := by
      rw [HBr.out.frozen (p := ⟨w.heap.size + 1, 0, none⟩) (by show w.heap.size + 1 < _; omega)]; exact frozen_new _ _ _ _ _ (by simp)
    have hf1 : wr.frozen? ⟨w.heap.size + 1, 1, none⟩ = false := by
      rw [HBr.out.frozen (p := ⟨w.heap.size + 1, 1, none⟩) (by show w.heap.size + 1 < _; omega)]; exact frozen_new _ _ _ _ _ (by simp)
    have HBw : Hid (Below w.heap.size w wr) := (((Below.refl _ w).alloc (Nat.le_refl _) _).alloc (by simp) _).trans (HBr.out.mono (by omega))
    by_cases hkn : k < n
    · obtain ⟨v, d, hcv, hT⟩ := HE.out k hkn
      have hx : wr.cell? ⟨E, k, none⟩ = some v := (HBw.out.cell (p := ⟨E, k, none⟩) hE).trans hcv
      have HT : Hid (Tree wr A w.heap.size d v (U k)) := tree_below HBw.out (Nat.le_refl _) hT
      have hk0 : (0 : Int) ≤ (k : Int) := by omega
      have hk1 : (k : Int) < (n : Int) := by omega
      clear hT hcv
      have HB0 : Hid (Below wr.heap.size wr (wr.alloc (.cells #[.pointer none] 67))) := (Below.refl _ wr).alloc (Nat.le_refl _) _
      have HS0 : Hid (St (wr.alloc (.cells #[.pointer none] 67)) w.heap.size wr.heap.size w.heap.size nm none) :=
        ⟨by rw [World.cell?_alloc_past _ _ _ (by omega)]; exact hNM, frozen_new _ _ _ _ _ rfl, by omega, by omega, Nat.le_refl _, .inl ⟨rfl, by simp⟩⟩
      go_wp2_with fail
      refine (walk_any d v (U k) _ none (tree_below (HB0.out.mono (by omega)) (Nat.le_refl _) HT.out) HS0.out).mono ?_
      rintro e w3 ⟨rfl, hs3, hg3⟩
      have HB3 : Hid (Below wr.heap.size wr w3) := HB0.out.trans (grown_below hg3 (Nat.le_refl _) (by simp))
      have hr03 := (HB3.out.cell (p := ⟨w.heap.size + 1, 0, none⟩) (by show w.heap.size + 1 < _; omega)).trans hr0
      have hr13 := (HB3.out.cell (p := ⟨w.heap.size + 1, 1, none⟩) (by show w.heap.size + 1 < _; omega)).trans hr1
      have hf03 := (HB3.out.frozen (p := ⟨w.heap.size + 1, 0, none⟩) (by show w.heap.size + 1 < _; omega)).trans hf0
      have hf13 := (HB3.out.frozen (p := ⟨w.heap.size + 1, 1, none⟩) (by show w.heap.size + 1 < _; omega)).trans hf1
      clear hg3
      have hs6 := hs3.2.2.2.2.2
      clear hs3
      cases hfu : findU nm (U k) with
      | none =>
        have hP : w3.cell? ⟨wr.heap.size, 0, none⟩ = some (.pointer none) := by
          rcases hs6 with ⟨_, h⟩ | ⟨l, c0, b, o, e, _⟩
          · exact h
          · have e2 : findU nm (U k) = some (l, c0) := e
            rw [hfu] at e2; cases e2
        have HFU := hid hfu
        clear hs6 hfu
        go_wp2_with fail
        go_roundw
        case rel => exact ⟨k + 1, by omega, by go_num, no_more HF.out HFU.out, HBr.out.trans (HB3.out.mono (by omega))⟩
        case measure => simp [intOf]; omega
      | some p =>
        obtain ⟨l, c0, b, o, e, hb, hP, hl, hc⟩ : ∃ (l c : Int) (b o : Nat), p = (l, c) ∧ b < w.heap.size ∧ w3.cell? ⟨wr.heap.size, 0, none⟩ = some (.pointer (some ⟨b, o, none⟩)) ∧ w3.cell? ⟨b, o, none⟩ = some (.int .i64 l) ∧ w3.cell? ⟨b, o + 1, none⟩ = some (.int .i64 c) := by
          rcases hs6 with ⟨e, _⟩ | ⟨l, c0, b, o, e, h1, h2, h3, h4⟩
          · have e2 : findU nm (U k) = none := e
            rw [hfu] at e2; cases e2
          · have e2 : findU nm (U k) = some (l, c0) := e
            rw [hfu] at e2; injection e2 with e2
            exact ⟨l, c0, b, o, e2, h1, h2, h3, h4⟩
        subst e
        have HFIN := hid (found_at HF.out hfu n hkn)
        clear hs6 hfu
        go_wp2_with fail
        obtain ⟨t0, t1⟩ := two_set (.int .i64 l) (.int .i64 c0) hr03 hr13
        exact bodyPost_ret (v := .agg #[.int .i64 l, .int .i64 c0]) (by simp [results, Yba.results6, go_sem, t0, t1]) rfl
          ⟨by rw [HFIN.out]; rfl, ((HBw.out.trans (HB3.out.mono (by omega))).setCell (by simp) _).setCell (by simp) _⟩
    · obtain rfl : n = k := by omega
      go_wp2_with fail
      obtain ⟨t0, t1⟩ := two_set (.int .i64 0) (.int .i64 0) hr0 hr1
      exact bodyPost_ret (v := .agg #[.int .i64 0, .int .i64 0]) (by simp [results, Yba.results6, go_sem, t0, t1]) rfl
        ⟨by rw [HF.out]; rfl, (HBw.out.setCell (by simp) _).setCell (by simp) _⟩
end Go.Proofs.Ybulkcgzg
