/- WHAT THE WALK OF 'LawS4153CFirst' CARRIES ROUND ITS LOOPS. -/
import Derived.Test.YbulkcgzgBuild
import Derived.Test.YbulkcgzgModel
namespace Go.Proofs.Ybulkcgzg
open Go.RowKit

/-- How many leaves the first k statements have. -/
def tot (S : Nat → StmtD) : Nat → Nat
  | 0 => 0
  | k + 1 => tot S k + (S k).n
theorem tot_le (S : Nat → StmtD) (k : Nat) : ∀ d, tot S k ≤ tot S (k + d)
  | 0 => Nat.le_refl _
  | d + 1 => by have h := tot_le S k d; rw [← Nat.add_assoc]; simp only [tot]; omega
theorem one_le_tot (S : Nat → StmtD) {i n : Nat} (h : i < n) : (S i).n ≤ tot S n := by
  have h1 := tot_le S (i + 1) (n - (i + 1))
  rw [show i + 1 + (n - (i + 1)) = n by omega] at h1
  simp only [tot] at h1
  omega

/-- The first k trees of the events, in the list vs. -/
def Ts (w : World) (A k : Nat) (vs : List Value) (U : Nat → List Use) : Prop := ∀ j, j < k → ∃ v d, vs[j]? = some v ∧ Tree w A w.heap.size d v (U j)

/-- One round of the second loop. -/
theorem ts_step {X k : Nat} {w0 wr w2 w4 : World} {vs : List Value} {U : Nat → List Use} {v : Value} {d : Nat} {o1 o2 : Obj} (hBw : Below X w0 wr) (hX : X < wr.heap.size) (hlen : vs.length = k) (hx : Ts wr (X + 1) k vs U)
    (hB2 : Below (wr.alloc o1).heap.size (wr.alloc o1) w2) (hv : Tree w2 (wr.alloc o1).heap.size w2.heap.size d v (U k)) (hg4 : (w2.alloc o2).grownBy w4 (some X)) :
    Ts w4 (X + 1) (k + 1) (vs ++ [v]) U ∧ Below X w0 w4 ∧ X < w4.heap.size := by
  have hs2 := hB2.size
  have hs4 := hg4.size
  simp at hs2 hs4
  have hk24 : ∀ b o, X + 1 ≤ b → b < w2.heap.size → w4.cell? ⟨b, o, none⟩ = w2.cell? ⟨b, o, none⟩ := by
    intro b o h1 h2
    have e := hg4.block b (by simp; omega) (by simp; omega)
    rw [World.cell?_of_block (w := w2.alloc o2) (a := ⟨b, o, none⟩) e, World.cell?_alloc_past _ _ _ h2]
  have hkr2 : ∀ b o, b < wr.heap.size → w2.cell? ⟨b, o, none⟩ = wr.cell? ⟨b, o, none⟩ := by
    intro b o h2
    rw [hB2.cell (p := ⟨b, o, none⟩) (by simp; omega), World.cell?_alloc_past _ _ _ h2]
  refine ⟨?_, ?_, by omega⟩
  · intro j hj
    by_cases e : j = k
    · subst e
      exact ⟨v, d, by simp [hlen], tree_kept (fun b o h1 h2 => hk24 b o (by simp at h1; omega) h2) (by simp; omega) (by omega) d v _ hv⟩
    · obtain ⟨u, d', hu, hl⟩ := hx j (by omega)
      refine ⟨u, d', by rw [List.getElem?_append_left (by omega)]; exact hu, tree_kept (fun b o h1 h2 => ?_) (Nat.le_refl _) (by omega) d' u _ hl⟩
      rw [hk24 b o h1 (by omega), hkr2 b o h2]
  · exact (((hBw.alloc (by omega) o1).trans (hB2.mono (by simp; omega))).alloc (by omega) o2).grown hg4 (by simp; omega) (by simp)

theorem ts_events {w w' : World} {A B X n cap : Nat} {vs : List Value} {U : Nat → List Use} (ho : w.ownsRow B 29 1 (.slice (some ⟨X, 0, none⟩) n cap) n vs) (h : Ts w A n vs U) (hX : X < w.heap.size) (hb : Below w.heap.size w w') : Events w' A w'.heap.size X n U := by
  intro j hj
  obtain ⟨v, d, hv, hT⟩ := h j hj
  exact ⟨v, d, by rw [hb.cell (p := ⟨X, j, none⟩) hX]; exact xs_cell ho hv, tree_below hb hb.size hT⟩
end Go.Proofs.Ybulkcgzg
