/- THE WALK OF 'xcsp3.LawS4139CEnds' (function 6): no domain at all; too many. -/
import Derived.Test.YbulkcgrsCEndsWalk
namespace Go.Proofs.Ybulkcgrs.CEnds
open Go.RowKit Go.Proofs.Ybulkcgrs.Kit

set_option maxRecDepth 100000 in
theorem walkL (a : Option Addr) (len cap : Nat) (pad sel : Int) (w : World) (hl : 1024 < len) :
    Calls Yba.prog 6 #[.slice a len cap, .int .i64 pad, .int .u16 sel] w fun e w' => e = .returned (.bool true) ∧ Below w.heap.size w w' := by
  have hl' : (1024 : Int) < (len : Int) := by omega
  go_enter Yba.func6, Yba.ntmps6
  go_wp2
  go_ret
  exact ⟨rfl, Below.refl _ _⟩

theorem zero_step {N : Nat} {w wr w4 : World} {pad : Int} {s : Value} {o : Obj} (hBr : Below N w wr) (hNr : N < wr.heap.size)
    (hown : w4.ownsRow N 65 2 (.slice (some ⟨N, 0, none⟩) (0 + 1) 1) (0 + 1) ([] ++ [s, .slice (some ⟨wr.heap.size, 0, none⟩) 1 1]))
    (hg : ((wr.alloc (.cells #[.int .i64 pad] 3)).alloc o).grownBy w4 (some N)) :
    w4.cell? ⟨N, 1, none⟩ = some (.slice (some ⟨wr.heap.size, 0, none⟩) 1 1) ∧ w4.cell? ⟨wr.heap.size, 0, none⟩ = some (.int .i64 pad) ∧ Below N w w4 ∧ N < w4.heap.size ∧ wr.heap.size < w4.heap.size := by
  have h1 := hown.cells (g := N) rfl 1 _ (by simp; rfl)
  rw [Addr.add_lit, Nat.zero_add] at h1
  have hs := hg.size
  simp at hs
  refine ⟨h1, ?_, ?_, by omega, by omega⟩
  · have e := hg.block wr.heap.size (by simp; omega) (by simp; omega)
    rw [World.cell?_of_block (w := (wr.alloc (.cells #[.int .i64 pad] 3)).alloc o) (a := ⟨wr.heap.size, 0, none⟩) e, World.cell?_alloc_past _ _ _ (by simp)]
    simp
  · exact ((hBr.alloc (by omega) _).alloc (by simp; omega) _).grown hg (by simp; omega) (by simp)

set_option maxHeartbeats 1000000 in
set_option maxRecDepth 100000 in
theorem walk0 (a : Option Addr) (cap : Nat) (pad sel : Int) (w : World) (hp1 : -9223372036854775808 ≤ pad) (hp2 : pad ≤ 9223372036854775807) (hs1 : 0 ≤ sel) (hs2 : sel ≤ 65535) :
    Calls Yba.prog 6 #[.slice a 0 cap, .int .i64 pad, .int .u16 sel] w fun e w' => e = .returned (.bool true) ∧ Below w.heap.size w w' := by
  obtain ⟨i65, hi65, hz650, hz651, hz652⟩ := info_parts info65
  go_enter Yba.func6, Yba.ntmps6
  go_wp2_with fail
  go_loop [25] (fun i => i = .int .i64 0) (fun i => 0)
  case atStart => exact rfl
  case round =>
    obtain rfl := hrel
    go_wp2_with (first
      | (at_make; refine wpList_make_own _ rfl _ _ 63 rfl w.heap.size 65 i65 (.agg #[.string ByteArray.empty, .slice none 0 0]) 2 Yba.underlying63 hi65 hz650 hz651 _ _ _ 1 rfl rfl (by omega) (by rw [hz652]; omega) (by unfold maxLen; omega) (Nat.le_refl _) ?_; intro w1 hown hgrow; have HO1 := hid hown; have hNw1 : w.heap.size < w1.heap.size := (hown.lt _ rfl).2; have HB1 := (Below.refl w.heap.size w).grown hgrow (Nat.le_refl _) (by simp); clear hown hgrow))
    go_loopw [9, 39] (fun vs i wr => i = .int .i64 0 ∧ vs = .slice (some ⟨w.heap.size, 0, none⟩) 0 1 ∧ Hid (wr.ownsRow w.heap.size 65 2 (.slice (some ⟨w.heap.size, 0, none⟩) 0 1) 0 []) ∧ Below w.heap.size w wr ∧ w.heap.size < wr.heap.size) (fun _ i _ => 0)
    case atStart => exact ⟨rfl, rfl, HO1, HB1, hNw1⟩
    case round =>
      obtain ⟨rfl, rfl, HO, hBr, hNr⟩ := hrel
      clear HO1 HB1
      go_wp2_with (first
        | (at_builtin; refine wpList_append_fits _ rfl (.tmp 63) (.tmp 67) 63 rfl w.heap.size 65 i65 2 Yba.underlying63 hi65 hz651 w.heap.size 0 1 [] rfl ((HO.out.alloc _).alloc _) ⟨wr.heap.size + 1, 0, none⟩ 1 1 [.string ⟨#[]⟩, .slice (some ⟨wr.heap.size, 0, none⟩) 1 1] rfl (by simp) (two_new2 _ _ _ _ _) (two_one _ _ _) (by omega) ?_; intro w4 hown4 hgrow4; obtain ⟨c1, c2, HB4, hN4, hr4⟩ := zero_step hBr hNr hown4 hgrow4; clear hown4 hgrow4))
      clear HO hBr
      have hEq : ([pad].take 1 == [pad].take 1) = true := by simp
      refine (Yba.slices_Clone_int wr.heap.size 0 1 1 [pad] _ (by simp) (by omega) (fun j hj => ?_)).mono ?_
      · obtain rfl : j = 0 := by simpa using hj
        simpa using c2
      rintro e w5 ⟨v', rfl, hown5, hnn, hb5⟩
      obtain ⟨g5, c5, rfl, hg5, hz5⟩ := own_form (zs := [pad].take 1) hown5 hnn
      have hz50 := hz5 0 (by omega)
      have d1 := (hb5.cell (p := ⟨w.heap.size, 1, none⟩) hN4).trans c1
      have d2 := (hb5.cell (p := ⟨wr.heap.size, 0, none⟩) hr4).trans c2
      have hs5 := hb5.size
      have hN5 : w.heap.size < w5.heap.size := by omega
      have hr5 : wr.heap.size < w5.heap.size := by omega
      have hgg5 : g5 < w5.heap.size := by have := World.block_lt_of_cell? w5 _ hz50; simpa using this
      have HB5 : Hid (Below w.heap.size w w5) := HB4.trans (hb5.mono (by omega))
      simp only [List.take_succ_cons, List.take_zero, List.getD_cons_zero] at hz50
      clear hz5 hown5 hnn hb5 c1 c2
      go_wp2_with fail
      refine (magn_any w5.heap.size w.heap.size 1 1 0 wr.heap.size 0 1 1 pad pad _ (by omega) (by omega) (by omega) (by omega) hp1 hp2 hp1 hp2 ?_ ?_ ?_ ?_).mono ?_
      · simp
      · rw [World.cell?_alloc_past _ _ _ hN5]; exact d1
      · rw [World.cell?_alloc_past _ _ _ hr5]; exact d2
      · rw [World.cell?_alloc_past _ _ _ hr5]; exact d2
      rintro e w6 ⟨rfl, q, rfl⟩
      go_wp2_with fail
      refine (Yba.slices_Equal_int wr.heap.size 0 1 1 g5 0 1 c5 [pad] [pad] _ (by simp) (by simp) (by omega) (by omega) (fun j hj => ?_) (fun j hj => ?_)).mono ?_
      · obtain rfl : j = 0 := by simpa using hj
        rw [World.cell?_drewN, World.cell?_alloc_past _ _ _ hr5]; exact d2
      · obtain rfl : j = 0 := by simpa using hj
        rw [World.cell?_drewN, World.cell?_alloc_past _ _ _ hgg5]; exact hz50
      rintro e w7 ⟨rfl, q2, rfl⟩
      have h2 : mag2 pad pad = mag pad := by simp [mag2]
      go_wp2_with (go_at_call 14; refine (zzabs_any _ _ (by assumption) (by assumption)).mono ?_; rintro e w8 ⟨rfl, rfl⟩)
      go_ret
      exact ⟨rfl, below_drewN (HB5.out.alloc (by omega) _) _⟩
end Go.Proofs.Ybulkcgrs.CEnds
