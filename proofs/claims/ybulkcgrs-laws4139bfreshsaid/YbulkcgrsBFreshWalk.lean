/- THE WALK OF 'abtcore.LawS4139BFresh' (function 5). -/
import Derived.Test.YbulkcgrsAbtNew
import Derived.Test.YbulkcgrsValue
namespace Go.Proofs.Ybulkcgrs.lawS4139BFresh
open Go.RowKit Go.Proofs.Ybulkcgrs.Kit

theorem info3 : (Yba.prog.info? 3).map (fun i => (i.zero, i.size, i.bytes)) = some (some (.int .i64 0), 1, 8) := by kernel_rfl
theorem size3 : (Yba.prog.info? 3).map (·.size) = some 1 := by kernel_rfl

set_option maxRecDepth 100000 in
theorem walkL (a0 : Option Addr) (len0 cap0 : Nat) (w : World) (hl : 1024 < len0) :
    Calls Yba.prog 5 #[.slice a0 len0 cap0] w fun e w' => e = .returned (.bool true) ∧ Below w.heap.size w w' := by
  have hl' : (1024 : Int) < (len0 : Int) := by omega
  go_enter Yba.func5, Yba.ntmps5
  go_wp2
  go_ret
  exact ⟨rfl, Below.refl _ _⟩

theorem src_any {w w1 : World} {N : Nat} {cs : List Value} {a0 : Option Addr} (hB : Below N w w1) (hp : 0 < cs.length → ∃ ad, a0 = some ad ∧ ad.block < N ∧ ∀ j v, cs[j]? = some v → w.cell? (ad.add j) = some v) :
    0 < cs.length → some (⟨N, 0, none⟩ : Addr) = some ⟨N, 0, none⟩ ∧ ∃ ad, a0 = some ad ∧ ∀ j v, cs[j]? = some v → w1.cell? (ad.add j) = some v := by
  intro h
  obtain ⟨ad, h1, h2, h3⟩ := hp h
  refine ⟨rfl, ad, h1, fun j v hv => ?_⟩
  rw [hB.cell (p := ad.add j) (by unfold Addr.add; split <;> simpa using h2)]
  exact h3 j v hv

set_option maxHeartbeats 400000 in
set_option maxRecDepth 100000 in
/-- The source of the copy: where there is an element, its cells. -/
theorem walkS (a0 : Option Addr) (len0 cap0 : Nat) (cs : List Value) (w : World) (hl : len0 ≤ 1024) (hcl : cs.length = len0) (h1 : ∀ v ∈ cs, v.oneCell' = true)
    (hpos : 0 < cs.length → ∃ ad, a0 = some ad ∧ ad.block < w.heap.size ∧ ∀ j v, cs[j]? = some v → w.cell? (ad.add j) = some v) :
    Calls Yba.prog 5 #[.slice a0 len0 cap0] w fun e w' => e = .returned (.bool true) ∧ Below w.heap.size w w' := by
  obtain ⟨i0, hi, hz0, hz1, hz2⟩ := info_parts info3
  have hle : (len0 : Int) ≤ 1024 := by omega
  have HP : Hid (0 < cs.length → ∃ ad, a0 = some ad ∧ ad.block < w.heap.size ∧ ∀ j v, cs[j]? = some v → w.cell? (ad.add j) = some v) := hpos
  have H1 : Hid (∀ v ∈ cs, v.oneCell' = true) := h1
  clear hpos h1
  obtain ⟨Z, hZ⟩ : ∃ Z, Z = (madeCells (Value.int .i64 0).cells (len0 * 1)).toList := ⟨_, rfl⟩
  have HZ : Hid (Z = (madeCells (Value.int .i64 0).cells (len0 * 1)).toList) := hZ
  have HZl : Hid (0 + cs.length ≤ Z.length) := by show _ ≤ _; rw [hZ, hcl]; simp [size_madeCells]
  have HCl : Hid (cs.length = Nat.min len0 len0) := by show _ = _; rw [hcl]; simp
  clear hZ hcl
  go_enter Yba.func5, Yba.ntmps5
  go_wp2_with (first
    | (at_make; refine wpList_make_full _ rfl _ _ 22 rfl w.heap.size 3 i0 (.int .i64 0) 1 Yba.underlying22 hi hz0 hz1 _ _ _ _ len0 rfl rfl (by omega) (by omega) (by rw [hz2]; omega) (by unfold maxLen; omega) (Nat.le_refl _) ?_; intro w1 hown hgrow; have HG1 : Hid (w1.heap[w.heap.size]? = some (.cells Z.toArray 3 (0, 0))) := (by rw [HZ.out]; exact owns_block hown); have HB1 := (Below.refl w.heap.size w).grown hgrow (Nat.le_refl _) (by simp); clear hown hgrow)
    | (with_reducible (show wpList _ _ _ ({ dst := _, op := Op.call { callee := Callee.builtin Builtin.copy, args := _, argTypes := _ }, type := _, pos := _, after := _, guard := _ } :: _) _ _); (refine wpList_copy_splice (by rfl) (.tmp 12) (.tmp 13) 22 22 (by rfl) 3 Yba.underlying22 size3 (some ⟨w.heap.size, 0, none⟩) a0 len0 len0 len0 cap0 rfl rfl w.heap.size 0 Z 3 HG1.out cs HCl.out (src_any HB1 HP.out) HZl.out H1.out w.heap.size w HB1 (Nat.le_refl _) ?_); intro w2 HG2 hB2; clear HG1 HB1))
  have hN : w.heap.size < w2.heap.size := lt_of_block HG2.out
  refine (abtnew_any _ _ _ w2.heap.size _ hl ?_).mono ?_
  · simp
  rintro e w3 ⟨B, hB, rfl, h15, HB3⟩
  have HBw : Hid (Below w.heap.size w w3) := ((hB2.alloc (by omega) _).alloc (by simp; omega) _).trans (HB3.mono (by simp; omega))
  clear HB3
  go_wp2_with (go_at_call 9; refine (value_neg B (-1) _ (by omega) h15).mono ?_; rintro e w4 ⟨rfl, rfl⟩)
  go_ret
  exact ⟨rfl, HBw.out⟩
end Go.Proofs.Ybulkcgrs.lawS4139BFresh
