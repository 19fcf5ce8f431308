/-
  SMALL LAWS OF OUR OWN ON WORLDS, for the walks of this seat: no function of the program is named here.
-/
import Derived.WalkKit
import Derived.WalkSpells
import Derived.WalkLawsBesides
import Derived.Laws.CopyOwn
import Derived.OpenShut
namespace Go.Proofs.Ybulkcgrs.Kit
open Go.RowKit

/-- What 'make' leaves, read as a block. -/
theorem owns_block {w1 : World} {B N e n size : Nat} {xs : List Value} (h : w1.ownsRow B e size (.slice (some ⟨N, 0, none⟩) n n) n xs) : w1.heap[N]? = some (.cells xs.toArray e (0, 0)) := by
  obtain ⟨hl, h2⟩ := h
  rcases h2 with ⟨h2, _⟩ | ⟨g, cap, cur, hv, _, hh, _, _, hs, ht⟩
  · simp at h2
  · simp at hv
    obtain ⟨rfl, rfl⟩ := hv
    rw [List.take_of_length_le (by simp [hs])] at ht
    rw [hh, ← ht]

/-- The cells of a new row over which a whole row of numbers was laid. -/
theorem copied_cells {w2 : World} {N e n : Nat} {Z : List Value} {zs : List Int} (hg : w2.heap[N]? = some (.cells (splice Z 0 (zs.map (Value.int .i64))).toArray e (0, 0))) (hz : zs.length = n) :
    ∀ j, j < n → w2.cell? ⟨N, j, none⟩ = some (.int .i64 (zs.getD j 0)) := by
  intro j hj
  rw [cell_of_row w2 N j _ e (0, 0) hg]
  simp [splice, List.getElem?_append, hz, hj]

theorem lt_of_block {w2 : World} {N : Nat} {o : Obj} (hg : w2.heap[N]? = some o) : N < w2.heap.size := (Array.getElem?_eq_some_iff.1 hg).1

/-- The cells that 'copy' reads, in a later world. -/
theorem src_cells {w w1 : World} {N b off n : Nat} {zs : List Int} {cs : List Value} {dp : Option Addr} (hB : Below N w w1) (hb : b < N) (hcs : cs = zs.map (Value.int .i64)) (hz : zs.length = n)
    (hc : ∀ j, j < n → w.cell? ⟨b, off + j, none⟩ = some (.int .i64 (zs.getD j 0))) (hd : dp = some ⟨N, 0, none⟩) :
    0 < cs.length → dp = some ⟨N, 0, none⟩ ∧ ∃ ad, some (⟨b, off, none⟩ : Addr) = some ad ∧ ∀ j v, cs[j]? = some v → w1.cell? (ad.add j) = some v := by
  intro _
  refine ⟨hd, ⟨b, off, none⟩, rfl, fun j v hv => ?_⟩
  rw [Addr.add_lit, hB.cell (p := ⟨b, off + j, none⟩) hb]
  have hj : j < n := by have := (List.getElem?_eq_some_iff.1 hv).1; simp [hcs, hz] at this; exact this
  rw [hc j hj, ← hv, hcs]
  simp [List.getD, show j < zs.length by omega]

theorem ints_one {zs : List Int} {cs : List Value} (hcs : cs = zs.map (Value.int .i64)) : ∀ v ∈ cs, v.oneCell' = true := by
  subst hcs; exact ints_oneCell _ _

end Go.Proofs.Ybulkcgrs.Kit
