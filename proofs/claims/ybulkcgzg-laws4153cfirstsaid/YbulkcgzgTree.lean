/- TREES OF EXPRESSIONS IN MEMORY, BY WHAT A WALK THROUGH THEM MEETS: the uses of names, in their order. No function of the program is named here. -/
import Derived.Test.YbulkcgzgSwitch
namespace Go.Proofs.Ybulkcgzg
open Go.RowKit

/-- A use of a name: the name, the line, the column. -/
abbrev Use := ByteArray × Int × Int

/-- The place of the first use of nm. -/
def findU (nm : ByteArray) : List Use → Option (Int × Int)
  | [] => none
  | u :: r => if (u.1.toList == nm.toList) = true then some u.2 else findU nm r
/-- What is known behind the uses us, m being known ahead of them. -/
def upd (nm : ByteArray) (m : Option (Int × Int)) (us : List Use) : Option (Int × Int) := match m with | some p => some p | none => findU nm us
/-- The uses of the first n trees. -/
def catU (U : Nat → List Use) : Nat → List Use
  | 0 => []
  | n + 1 => catU U n ++ U n

theorem findU_append (nm : ByteArray) (a b : List Use) : findU nm (a ++ b) = upd nm (findU nm a) b := by
  induction a with
  | nil => rfl
  | cons u r ih =>
    simp only [List.cons_append, findU]
    split
    · rfl
    · exact ih
theorem upd_append (nm : ByteArray) (m : Option (Int × Int)) (a b : List Use) : upd nm m (a ++ b) = upd nm (upd nm m a) b := by
  cases m with
  | none => exact findU_append nm a b
  | some p => rfl
theorem upd_nil (nm : ByteArray) (m : Option (Int × Int)) : upd nm m [] = m := by cases m <;> rfl

/-- A tree without subtrees: a field, a variable, a literal, a foreign node. -/
def Leafy (w : World) (A B : Nat) (v : Value) (us : List Use) : Prop :=
  (∃ (g : Nat) (nm : ByteArray) (l c : Int), v = .iface 69 (.pointer (some ⟨g, 0, none⟩)) ∧ (A ≤ g ∧ g < B) ∧ w.cell? ⟨g, 0, none⟩ = some (.string nm) ∧ w.cell? ⟨g, 5, none⟩ = some (.int .i64 l) ∧ w.cell? ⟨g, 6, none⟩ = some (.int .i64 c) ∧ us = [(nm, l, c)]) ∨
  (∃ (g : Nat) (nm : ByteArray) (l c : Int), v = .iface 75 (.pointer (some ⟨g, 0, none⟩)) ∧ (A ≤ g ∧ g < B) ∧ w.cell? ⟨g, 0, none⟩ = some (.string nm) ∧ w.cell? ⟨g, 1, none⟩ = some (.int .i64 l) ∧ w.cell? ⟨g, 2, none⟩ = some (.int .i64 c) ∧ us = [(nm, l, c)]) ∨
  (∃ (t : TypeId) (x : Value), (t = 79 ∨ t = 83) ∧ v = .iface t x ∧ us = [])

/-- A node over trees of the kind T. -/
def Node (w : World) (A B : Nat) (T : Value → List Use → Prop) (v : Value) (us : List Use) : Prop :=
  (∃ (t : TypeId) (g : Nat) (x y : Value) (ux uy : List Use), (t = 51 ∨ t = 55 ∨ t = 58) ∧ v = .iface t (.pointer (some ⟨g, 0, none⟩)) ∧ (A ≤ g ∧ g < B) ∧ w.cell? ⟨g, 1, none⟩ = some x ∧ w.cell? ⟨g, 2, none⟩ = some y ∧ T x ux ∧ T y uy ∧ us = ux ++ uy) ∨
  (∃ (t : TypeId) (g : Nat) (x : Value), (t = 60 ∨ t = 61) ∧ v = .iface t (.pointer (some ⟨g, 0, none⟩)) ∧ (A ≤ g ∧ g < B) ∧ w.cell? ⟨g, 0, none⟩ = some x ∧ T x us) ∨
  (∃ (g n c : Nat) (a : Option Addr) (V : Nat → Value) (U : Nat → List Use), v = .iface 48 (.pointer (some ⟨g, 0, none⟩)) ∧ (A ≤ g ∧ g < B) ∧ w.cell? ⟨g, 1, none⟩ = some (.slice a n c) ∧ n ≤ 4096 ∧
    (0 < n → ∃ h, a = some ⟨h, 0, none⟩ ∧ (A ≤ h ∧ h < B) ∧ ∀ j, j < n → w.cell? ⟨h, j, none⟩ = some (V j)) ∧ (∀ j, j < n → T (V j) (U j)) ∧ us = catU U n)

/-- A tree of at most d storeys, in blocks from A on and below B. -/
def Tree (w : World) (A B : Nat) : Nat → Value → List Use → Prop
  | 0 => Leafy w A B
  | d + 1 => fun v us => Leafy w A B v us ∨ Node w A B (Tree w A B d) v us

theorem tree_leaf {w : World} {A B : Nat} {v : Value} {us : List Use} (h : Leafy w A B v us) : ∀ d, Tree w A B d v us
  | 0 => h
  | _ + 1 => .inl h

theorem leafy_kept {w w' : World} {A A' B B' : Nat} (hk : ∀ b o, A ≤ b → b < B → w'.cell? ⟨b, o, none⟩ = w.cell? ⟨b, o, none⟩) (hA : A' ≤ A) (hB : B ≤ B') {v : Value} {us : List Use} (h : Leafy w A B v us) : Leafy w' A' B' v us := by
  rcases h with ⟨g, nm, l, c, hv, hg, h1, h2, h3, hu⟩ | ⟨g, nm, l, c, hv, hg, h1, h2, h3, hu⟩ | h
  · exact .inl ⟨g, nm, l, c, hv, by omega, by rw [hk _ _ hg.1 hg.2]; exact h1, by rw [hk _ _ hg.1 hg.2]; exact h2, by rw [hk _ _ hg.1 hg.2]; exact h3, hu⟩
  · exact .inr (.inl ⟨g, nm, l, c, hv, by omega, by rw [hk _ _ hg.1 hg.2]; exact h1, by rw [hk _ _ hg.1 hg.2]; exact h2, by rw [hk _ _ hg.1 hg.2]; exact h3, hu⟩)
  · exact .inr (.inr h)
theorem node_kept {w w' : World} {A A' B B' : Nat} (hk : ∀ b o, A ≤ b → b < B → w'.cell? ⟨b, o, none⟩ = w.cell? ⟨b, o, none⟩) (hA : A' ≤ A) (hB : B ≤ B') {T T' : Value → List Use → Prop} (hT : ∀ v us, T v us → T' v us) {v : Value} {us : List Use} (h : Node w A B T v us) : Node w' A' B' T' v us := by
  rcases h with ⟨t, g, x, y, ux, uy, ht, hv, hg, h1, h2, hx, hy, hu⟩ | ⟨t, g, x, ht, hv, hg, h1, hx⟩ | ⟨g, n, c, a, V, U, hv, hg, h1, hn, hrow, hV, hu⟩
  · exact .inl ⟨t, g, x, y, ux, uy, ht, hv, by omega, by rw [hk _ _ hg.1 hg.2]; exact h1, by rw [hk _ _ hg.1 hg.2]; exact h2, hT _ _ hx, hT _ _ hy, hu⟩
  · exact .inr (.inl ⟨t, g, x, ht, hv, by omega, by rw [hk _ _ hg.1 hg.2]; exact h1, hT _ _ hx⟩)
  · refine .inr (.inr ⟨g, n, c, a, V, U, hv, by omega, by rw [hk _ _ hg.1 hg.2]; exact h1, hn, fun h0 => ?_, fun j hj => hT _ _ (hV j hj), hu⟩)
    obtain ⟨h, ha, hh, hc⟩ := hrow h0
    exact ⟨h, ha, by omega, fun j hj => by rw [hk _ _ hh.1 hh.2]; exact hc j hj⟩
theorem tree_kept {w w' : World} {A A' B B' : Nat} (hk : ∀ b o, A ≤ b → b < B → w'.cell? ⟨b, o, none⟩ = w.cell? ⟨b, o, none⟩) (hA : A' ≤ A) (hB : B ≤ B') : ∀ (d : Nat) (v : Value) (us : List Use), Tree w A B d v us → Tree w' A' B' d v us
  | 0, _, _, h => leafy_kept hk hA hB h
  | d + 1, v, us, h => by
    rcases h with h | h
    · exact .inl (leafy_kept hk hA hB h)
    · exact .inr (node_kept hk hA hB (tree_kept hk hA hB d) h)

theorem tree_below {w w' : World} {A B B' d : Nat} {v : Value} {us : List Use} (hb : Below B w w') (hB : B ≤ B') (h : Tree w A B d v us) : Tree w' A B' d v us :=
  tree_kept (fun b o _ hlt => hb.cell (p := ⟨b, o, none⟩) hlt) (Nat.le_refl _) hB d v us h

/-- The closure's two variables: 'at' at block P, the name at block NM; what is known so far is m. -/
def St (w : World) (B P NM : Nat) (nm : ByteArray) (m : Option (Int × Int)) : Prop :=
  w.cell? ⟨NM, 0, none⟩ = some (.string nm) ∧ w.frozen? ⟨P, 0, none⟩ = false ∧ P ≠ NM ∧ B ≤ P ∧ B ≤ NM ∧
  ((m = none ∧ w.cell? ⟨P, 0, none⟩ = some (.pointer none)) ∨
   ∃ (l c : Int) (b o : Nat), m = some (l, c) ∧ b < B ∧ w.cell? ⟨P, 0, none⟩ = some (.pointer (some ⟨b, o, none⟩)) ∧ w.cell? ⟨b, o, none⟩ = some (.int .i64 l) ∧ w.cell? ⟨b, o + 1, none⟩ = some (.int .i64 c))

theorem St.lt {w : World} {B P NM : Nat} {nm : ByteArray} {m : Option (Int × Int)} (h : St w B P NM nm m) : P < w.heap.size ∧ NM < w.heap.size := by
  obtain ⟨h1, _, _, _, _, h2⟩ := h
  refine ⟨?_, by have := World.block_lt_of_cell? w _ h1; simpa using this⟩
  rcases h2 with ⟨_, h2⟩ | ⟨_, _, _, _, _, _, h2, _⟩
  · have := World.block_lt_of_cell? w _ h2; simpa using this
  · have := World.block_lt_of_cell? w _ h2; simpa using this
/-- The state stands behind whatever keeps the old blocks. -/
theorem St.kept {w w' : World} {B P NM : Nat} {nm : ByteArray} {m : Option (Int × Int)} (h : St w B P NM nm m) (hb : Below w.heap.size w w') : St w' B P NM nm m := by
  have hl := h.lt
  obtain ⟨h1, h2, h3, h4, h5, h6⟩ := h
  refine ⟨by rw [hb.cell (p := ⟨NM, 0, none⟩) hl.2]; exact h1, by rw [hb.frozen (p := ⟨P, 0, none⟩) hl.1]; exact h2, h3, h4, h5, ?_⟩
  rcases h6 with ⟨hm, hc⟩ | ⟨l, c, b, o, hm, hbB, hc, hl1, hc1⟩
  · exact .inl ⟨hm, by rw [hb.cell (p := ⟨P, 0, none⟩) hl.1]; exact hc⟩
  · exact .inr ⟨l, c, b, o, hm, hbB, by rw [hb.cell (p := ⟨P, 0, none⟩) hl.1]; exact hc, by rw [hb.cell (p := ⟨b, o, none⟩) (by show b < _; omega)]; exact hl1, by rw [hb.cell (p := ⟨b, o + 1, none⟩) (by show b < _; omega)]; exact hc1⟩
theorem grown_below {w w' : World} {B P : Nat} (h : w.grownBy w' (some P)) (hP : B ≤ P) (hB : B ≤ w.heap.size) : Below B w w' :=
  ⟨h.os, h.tape, h.output, h.size, fun k hk => h.block k (by omega) (by simp; omega)⟩
theorem below_grown {w w' : World} (row : Option Nat) (h : Below w.heap.size w w') : w.grownBy w' row := ⟨h.os, h.tape, h.output, h.size, fun k hk _ => h.block k hk⟩
theorem grown_trans {a b c : World} {P : Nat} (h : a.grownBy b (some P)) (k : b.grownBy c (some P)) : a.grownBy c (some P) :=
  ⟨k.os.trans h.os, k.tape.trans h.tape, k.output.trans h.output, Nat.le_trans h.size k.size, fun i hi hne => (k.block i (Nat.lt_of_lt_of_le hi h.size) hne).trans (h.block i hi hne)⟩
end Go.Proofs.Ybulkcgzg
