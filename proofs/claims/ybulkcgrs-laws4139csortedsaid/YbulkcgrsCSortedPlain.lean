/- THE PLAIN LAW BENEATH 'xcsp3.LawS4139CSorted': over a list in order the largest absolute value stands at one of its ends; sorting and compacting leave a list in order. AND the worlds that the sort and Compact leave. -/
import Derived.Test.YbulkcgrsMagn
import Derived.Lib.SlicesCompact
import Derived.Lib.SortBridge
namespace Go.Proofs.Ybulkcgrs.CSorted
open Go.RowKit Go.Proofs.Ybulkcgrs.Kit Go.Sort

/-- The law's loop: the largest absolute value met so far. -/
def better (m x : Int) : Int := if m < mag x then mag x else m
def best (c : List Int) : Int := c.foldl better 0

theorem fold_ge (c : List Int) : ∀ m, m ≤ c.foldl better m := by
  induction c with
  | nil => intro m; exact Int.le_refl _
  | cons a l ih =>
    intro m
    have h := ih (better m a)
    have : m ≤ better m a := by unfold better; split <;> omega
    simp only [List.foldl_cons]; omega
theorem fold_mem (c : List Int) : ∀ m x, x ∈ c → mag x ≤ c.foldl better m := by
  induction c with
  | nil => intro m x hx; cases hx
  | cons a l ih =>
    intro m x hx
    simp only [List.foldl_cons]
    rcases List.mem_cons.1 hx with rfl | hx
    · have h := fold_ge l (better m x)
      have : mag x ≤ better m x := by unfold better; split <;> omega
      omega
    · exact ih _ x hx
theorem fold_le (c : List Int) (M : Int) : ∀ m, m ≤ M → (∀ x ∈ c, mag x ≤ M) → c.foldl better m ≤ M := by
  induction c with
  | nil => intro m hm _; exact hm
  | cons a l ih =>
    intro m hm h
    simp only [List.foldl_cons]
    refine ih _ ?_ (fun x hx => h x (List.mem_cons_of_mem _ hx))
    have := h a (by simp)
    unfold better; split <;> omega
theorem best_snoc (c : List Int) (x : Int) : best (c ++ [x]) = better (best c) x := by simp [best]
theorem mag_nonneg (x : Int) : 0 ≤ mag x := by unfold mag; split <;> omega
theorem mag_between {a b x : Int} (h1 : a ≤ x) (h2 : x ≤ b) : mag x ≤ mag2 a b := by
  unfold mag2 mag
  by_cases hx : x < 0 <;> by_cases ha : a < 0 <;> by_cases hb : b < 0 <;> simp only [hx, ha, hb, if_true, if_false] <;> split <;> omega

theorem getD_of_lt {c : List Int} {j : Nat} (h : j < c.length) : c.getD j 0 = c[j] := by simp [List.getD, h]

theorem sorted_get {c : List Int} (hs : c.Pairwise (· ≤ ·)) {i j : Nat} (hi : i ≤ j) (hj : j < c.length) : c.getD i 0 ≤ c.getD j 0 := by
  rw [getD_of_lt (show i < c.length by omega), getD_of_lt hj]
  by_cases e : i = j
  · subst e; exact Int.le_refl _
  · exact List.pairwise_iff_getElem.1 hs i j (by omega) hj (by omega)

/-- Over a list in order, not empty, the largest absolute value is that of the first or of the last. -/
theorem best_sorted {c : List Int} (h0 : 0 < c.length) (hs : c.Pairwise (· ≤ ·)) : best c = mag2 (c.getD 0 0) (c.getD (c.length - 1) 0) := by
  have hle : best c ≤ mag2 (c.getD 0 0) (c.getD (c.length - 1) 0) := by
    refine fold_le c _ 0 ?_ (fun x hx => ?_)
    · have := mag_nonneg (c.getD 0 0); have := mag_nonneg (c.getD (c.length - 1) 0); unfold mag2; split <;> omega
    · obtain ⟨i, hi, rfl⟩ := List.getElem_of_mem hx
      have h1 := sorted_get hs (Nat.zero_le i) hi
      have h2 := sorted_get hs (show i ≤ c.length - 1 by omega) (by omega)
      rw [getD_of_lt hi] at h1 h2
      exact mag_between h1 h2
  have hf : mag (c.getD 0 0) ≤ best c := fold_mem c 0 _ (by rw [getD_of_lt h0]; exact List.getElem_mem _)
  have hl : mag (c.getD (c.length - 1) 0) ≤ best c := fold_mem c 0 _ (by rw [getD_of_lt (show c.length - 1 < c.length by omega)]; exact List.getElem_mem _)
  unfold mag2 at hle ⊢
  split at hle <;> rename_i hc <;> simp only [hc, if_true, if_false] <;> omega

theorem compact_sublist (zs : List Int) : (Lib.compact zs).Sublist zs := by
  unfold Lib.compact Lib.compactUpTo
  have h1 : (((List.range zs.length).filter (Lib.keeps zs.toArray)).map (zs.toArray[·]!)).Sublist ((List.range zs.length).map (zs.toArray[·]!)) := (List.filter_sublist).map _
  have h2 := Lib.range_map_get zs.toArray
  simp only [List.size_toArray] at h2
  rw [h2] at h1
  exact h1
theorem compact_pos (zs : List Int) (h : 0 < zs.length) : 0 < (Lib.compact zs).length := by
  unfold Lib.compact Lib.compactUpTo
  rw [List.length_map]
  have : 0 ∈ (List.range zs.length).filter (Lib.keeps zs.toArray) := by
    rw [List.mem_filter]
    exact ⟨List.mem_range.2 h, Lib.keeps_lt_one _ 0 (by omega)⟩
  exact List.length_pos_of_mem this

/-- What the law compares: the elements sorted and compacted. -/
def dom (zs : List Int) : List Int := Lib.compact (zs.mergeSort fun x y => decide (x ≤ y))
theorem dom_sorted (zs : List Int) : (dom zs).Pairwise (· ≤ ·) := by
  have h : (zs.mergeSort fun x y => decide (x ≤ y)).Pairwise (fun x y => decide (x ≤ y) = true) :=
    List.pairwise_mergeSort (fun a b c h1 h2 => by simp at h1 h2 ⊢; omega) (fun a b => by simp; omega) zs
  have h2 : (zs.mergeSort fun x y => decide (x ≤ y)).Pairwise (· ≤ ·) := by simpa using h
  exact h2.sublist (compact_sublist _)
theorem dom_pos (zs : List Int) (h : 0 < zs.length) : 0 < (dom zs).length := compact_pos _ (by rw [List.length_mergeSort]; exact h)
theorem dom_le (zs : List Int) : (dom zs).length ≤ zs.length := by
  have := (compact_sublist (zs.mergeSort fun x y => decide (x ≤ y))).length_le
  rw [List.length_mergeSort] at this; exact this
theorem dom_mem (zs : List Int) {x : Int} (h : x ∈ dom zs) : x ∈ zs := List.mem_mergeSort.1 ((compact_sublist _).subset h)

/-! ### The worlds -/
theorem below_setCells {B : Nat} {a : World} (g : Nat) (hg : B ≤ g) : ∀ (vs : List Value) (o : Nat) (w : World), Below B a w → Below B a (w.setCells g o vs)
  | [], _, _, h => h
  | v :: r, o, _, h => below_setCells g hg r (o + 1) _ (h.setCell (p := ⟨g, o, none⟩) hg v)
theorem size_setCells (g : Nat) : ∀ (vs : List Value) (o : Nat) (w : World), (w.setCells g o vs).heap.size = w.heap.size
  | [], _, _ => rfl
  | v :: r, o, w => by rw [World.setCells, size_setCells g r]; simp [World.setCell]

theorem holds_lt {w : World} {N : Nat} {d : Array Int} (h : Holds (Value.int .i64) w N 0 d) (h0 : 0 < d.size) : N < w.heap.size := by
  have := World.block_lt_of_cell? w _ (h 0 h0).1; simpa using this

theorem holds_put {w : World} {N q : Nat} {d : Array Int} {ys : List Int} (hH : Holds (Value.int .i64) w N 0 d) (hl : ys.length = d.size) :
    Holds (Value.int .i64) (putRow (Value.int .i64) (Sort.ahead w q) N 0 ys.toArray) N 0 ys.toArray ∧ Below N w (putRow (Value.int .i64) (Sort.ahead w q) N 0 ys.toArray) ∧ (putRow (Value.int .i64) (Sort.ahead w q) N 0 ys.toArray).heap.size = w.heap.size := by
  rw [Lib.putRow_eq_setCells (Value.int .i64) w N 0 d ys q hH hl]
  refine ⟨fun j hj => ⟨?_, ?_⟩, below_setCells N (Nat.le_refl _) _ _ _ (below_drewN (Below.refl _ _) _), by rw [size_setCells]; rfl⟩
  · simp only [List.size_toArray] at hj
    rw [World.cell?_setCells_in N (ys.map (Value.int .i64)) 0 (w.drewN q) (fun i hi => by
      have := (hH i (by simp at hi; omega)).1
      rw [World.cell?_drewN, this]; rfl) j (by simpa using hj)]
    simp [hj]
  · simp only [List.size_toArray] at hj
    rw [World.frozen?_setCells, World.frozen?_drewN]
    exact (hH j (by omega)).2

theorem holds_sorted {w : World} {N n : Nat} {os : Array Obj} {d : Array Int} {ys : List Int} (hH : Holds (Value.int .i64) w N 0 d) (hN : N < w.heap.size) (hl : ys.length = d.size) :
    Holds (Value.int .i64) (grow (putRow (Value.int .i64) (Sort.ahead w n) N 0 ys.toArray) os) N 0 ys.toArray ∧ Below N w (grow (putRow (Value.int .i64) (Sort.ahead w n) N 0 ys.toArray) os) := by
  obtain ⟨h1, h2, h3⟩ := holds_put (q := n) hH hl
  refine ⟨holds_grow _ _ _ _ _ _ (by rw [h3]; exact hN) h1, ?_⟩
  refine h2.trans ⟨rfl, rfl, rfl, by simp, fun k hk => heap_grow_old _ _ (by rw [h3]; omega)⟩

/-- The row that was copied into. -/
theorem holds_copied {w2 : World} {N e : Nat} {Z : List Value} {zs : List Int} (hg : w2.heap[N]? = some (.cells (splice Z 0 (zs.map (Value.int .i64))).toArray e (0, 0))) : Holds (Value.int .i64) w2 N 0 zs.toArray := by
  intro j hj
  simp only [List.size_toArray] at hj
  refine ⟨?_, by simp [World.frozen?, hg]⟩
  rw [Nat.zero_add, copied_cells hg rfl j hj]
  simp [List.getD, hj]
end Go.Proofs.Ybulkcgrs.CSorted
