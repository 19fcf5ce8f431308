/- THE PLAIN PART: the threads that 'zzs4143abuild' lays, and what 'the first index of a thread' is. No function of the program is named here. -/
import Derived.WalkKit
import Derived.WalkSpells
import Derived.WalkLawsBesides
import Derived.OpenShut
namespace Go.Proofs.Ybulkcgtw
open Go.RowKit

/-- The thread's number behind k deltas. -/
def acc (base : Int) (ds : List Int) : Nat → Int
  | 0 => base
  | k + 1 => acc base ds k + ds.getD k 0 % 4

theorem acc_le (base : Int) (ds : List Int) : ∀ k, base ≤ acc base ds k ∧ acc base ds k ≤ base + 3 * k
  | 0 => by simp [acc]
  | k + 1 => by have h := acc_le base ds k; simp only [acc]; omega
theorem acc_mono (base : Int) (ds : List Int) (i : Nat) : ∀ d, acc base ds i ≤ acc base ds (i + d)
  | 0 => Int.le_refl _
  | d + 1 => by have h := acc_mono base ds i d; rw [← Nat.add_assoc]; simp only [acc]; omega
theorem acc_le_acc (base : Int) (ds : List Int) {i j : Nat} (h : i ≤ j) : acc base ds i ≤ acc base ds j := by
  have := acc_mono base ds i (j - i); rwa [show i + (j - i) = j by omega] at this

/-- r is the first index below n at which T is q, or -1 where there is none. -/
def IsFirst (T : Nat → Int) (n : Nat) (q r : Int) : Prop :=
  (∃ i : Nat, i < n ∧ r = i ∧ T i = q ∧ ∀ j, j < i → T j ≠ q) ∨ (r = -1 ∧ ∀ j, j < n → T j ≠ q)

theorem first_one {T : Nat → Int} {n : Nat} {q r s : Int} (h : IsFirst T n q r) (k : IsFirst T n q s) : r = s := by
  rcases h with ⟨i, hi, rfl, hq, hm⟩ | ⟨rfl, hno⟩ <;> rcases k with ⟨i', hi', rfl, hq', hm'⟩ | ⟨rfl, hno'⟩
  · have : i = i' := by
      rcases Nat.lt_trichotomy i i' with h | h | h
      · exact absurd hq (hm' i h)
      · exact h
      · exact absurd hq' (hm i' h)
    rw [this]
  · exact absurd hq (hno' i hi)
  · exact absurd hq' (hno i' hi')
  · rfl

/-- The treeCounters that lie at block g: thread and count, two cells each. -/
def Counters (w : World) (g n : Nat) (T C : Nat → Int) : Prop := ∀ i, i < n → w.cell? ⟨g, i * 2, none⟩ = some (.int .i64 (T i)) ∧ w.cell? ⟨g, i * 2 + 1, none⟩ = some (.int .u64 (C i))
/-- k cells are there from the block's head on, and may be written. -/
def Room (w : World) (N k : Nat) : Prop := ∀ j, j < k → (∃ v, w.cell? ⟨N, j, none⟩ = some v) ∧ w.frozen? ⟨N, j, none⟩ = false

theorem hid {p : Prop} (h : p) : Hid p := h
theorem ret_int {k : IntKind} {a b : Int} (h : a = b) : Ending.returned (.int k a) = .returned (.int k b) := by rw [h]

theorem owns_block {w1 : World} {B N e n size : Nat} {xs : List Value} (h : w1.ownsRow B e size (.slice (some ⟨N, 0, none⟩) n n) n xs) : w1.heap[N]? = some (.cells xs.toArray e (0, 0)) := by
  obtain ⟨hl, h2⟩ := h
  rcases h2 with ⟨h2, _⟩ | ⟨g, cap, cur, hv, _, hh, _, _, hs, ht⟩
  · simp at h2
  · simp at hv
    obtain ⟨rfl, rfl⟩ := hv
    rw [List.take_of_length_le (by simp [hs])] at ht
    rw [hh, ← ht]
theorem room_of_block {w : World} {N t k : Nat} {cur : Array Value} (h : w.heap[N]? = some (.cells cur t (0, 0))) (hk : k ≤ cur.size) : Room w N k := by
  intro j hj
  refine ⟨⟨cur[j]'(by omega), ?_⟩, ?_⟩
  · rw [cell_of_row w N j cur t (0, 0) h]; simp [show j < cur.size by omega]
  · simp [World.frozen?, h]
theorem room_set {w : World} {N k : Nat} {a : Addr} {v : Value} (h : Room w N k) : Room (w.setCell a v) N k := by
  intro j hj
  obtain ⟨⟨u, hu⟩, hf⟩ := h j hj
  refine ⟨?_, by simpa using hf⟩
  by_cases e : a = ⟨N, j, none⟩
  · subst e; exact ⟨v, World.cell?_setCell_same w _ _ hu⟩
  · exact ⟨u, by rw [World.cell?_setCell_other w _ _ _ e]; exact hu⟩
theorem counters_set {w : World} {N m : Nat} {T C : Nat → Int} {u v : Value} {x y : Int} (hx : x = T m) (hy : y = C m) (e0 : w.cell? ⟨N, m * 2, none⟩ = some u) (e1 : w.cell? ⟨N, m * 2 + 1, none⟩ = some v) (h : Counters w N m T C) :
    Counters ((w.setCell ⟨N, m * 2, none⟩ (.int .i64 x)).setCell ⟨N, m * 2 + 1, none⟩ (.int .u64 y)) N (m + 1) T C := by
  subst hx; subst hy
  intro j hj
  by_cases e : j = m
  · subst e
    refine ⟨?_, ?_⟩
    · rw [World.cell?_setCell_other _ _ _ _ (by intro h; injection h; omega)]; exact World.cell?_setCell_same w _ _ e0
    · exact World.cell?_setCell_same _ _ _ (by rw [World.cell?_setCell_other _ _ _ _ (by intro h; injection h; omega)]; exact e1)
  · obtain ⟨h1, h2⟩ := h j (by omega)
    refine ⟨?_, ?_⟩
    · rw [World.cell?_setCell_other _ _ _ _ (by intro h; injection h; omega), World.cell?_setCell_other _ _ _ _ (by intro h; injection h; omega)]; exact h1
    · rw [World.cell?_setCell_other _ _ _ _ (by intro h; injection h; omega), World.cell?_setCell_other _ _ _ _ (by intro h; injection h; omega)]; exact h2
theorem lt_of_block {w2 : World} {N : Nat} {o : Obj} (hg : w2.heap[N]? = some o) : N < w2.heap.size := (Array.getElem?_eq_some_iff.1 hg).1

end Go.Proofs.Ybulkcgtw
