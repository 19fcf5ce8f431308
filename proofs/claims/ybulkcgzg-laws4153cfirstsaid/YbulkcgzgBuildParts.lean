/- WHAT THE WALK OF 'zzs4153cbuild' CARRIES ROUND ITS LOOPS. -/
import Derived.Test.YbulkcgzgLeaf
import Derived.Test.YbulkcgzgWalk
namespace Go.Proofs.Ybulkcgzg
open Go.RowKit

/-- A leaf as plain data. -/
structure LeafD where
  kind : Int
  name : Int
  line : Int
  col : Int
def leafU (x : LeafD) : List Use := useOf x.kind x.name x.line x.col

/-- The leaves that came in: four cells each. -/
def LeafRow (w : World) (a : Option Addr) (n : Nat) (D : Nat → LeafD) : Prop :=
  (∀ j, j < n → 0 ≤ (D j).kind ∧ (D j).kind ≤ 255 ∧ 0 ≤ (D j).name ∧ (D j).name ≤ 255) ∧
  (0 < n → ∃ b o, a = some ⟨b, o, none⟩ ∧ b < w.heap.size ∧ ∀ j, j < n → w.cell? ⟨b, o + j * 4, none⟩ = some (.int .u8 (D j).kind) ∧ w.cell? ⟨b, o + j * 4 + 1, none⟩ = some (.int .u8 (D j).name) ∧
    w.cell? ⟨b, o + j * 4 + 2, none⟩ = some (.int .i64 (D j).line) ∧ w.cell? ⟨b, o + j * 4 + 3, none⟩ = some (.int .i64 (D j).col))

/-- The first k leaves as trees, in the list vs. -/
def Xs (w : World) (A k : Nat) (vs : List Value) (U : Nat → List Use) : Prop := ∀ j, j < k → ∃ v, vs[j]? = some v ∧ Leafy w A w.heap.size v (U j)

theorem xs_kept {w w' : World} {A k : Nat} {vs : List Value} {U : Nat → List Use} (h : Xs w A k vs U) (hk : ∀ b o, A ≤ b → b < w.heap.size → w'.cell? ⟨b, o, none⟩ = w.cell? ⟨b, o, none⟩) (hs : w.heap.size ≤ w'.heap.size) : Xs w' A k vs U := by
  intro j hj
  obtain ⟨v, h1, h2⟩ := h j hj
  exact ⟨v, h1, leafy_kept hk (Nat.le_refl _) hs h2⟩

/-- One round of the first loop. -/
theorem xs_step {X k : Nat} {w0 wr w2 w4 : World} {vs : List Value} {U : Nat → List Use} {v : Value} {o1 o2 : Obj} (hBw : Below X w0 wr) (hX : X < wr.heap.size) (hlen : vs.length = k) (hx : Xs wr (X + 1) k vs U)
    (hB2 : Below (wr.alloc o1).heap.size (wr.alloc o1) w2) (hv : Leafy w2 (wr.alloc o1).heap.size w2.heap.size v (U k)) (hg4 : (w2.alloc o2).grownBy w4 (some X)) :
    Xs w4 (X + 1) (k + 1) (vs ++ [v]) U ∧ Below X w0 w4 ∧ X < w4.heap.size := by
  have hs2 := hB2.size
  have hs4 := hg4.size
  simp at hs2 hs4
  have hk24 : ∀ b o, X + 1 ≤ b → b < w2.heap.size → w4.cell? ⟨b, o, none⟩ = w2.cell? ⟨b, o, none⟩ := by
    intro b o h1 h2
    have e := hg4.block b (by simp; omega) (by simp; omega)
    rw [World.cell?_of_block (w := w2.alloc o2) (a := ⟨b, o, none⟩) e, World.cell?_alloc_past _ _ _ h2]
  have hkr2 : ∀ b o, b < wr.heap.size → w2.cell? ⟨b, o, none⟩ = wr.cell? ⟨b, o, none⟩ := by
    intro b o h2
    rw [hB2.cell (p := ⟨b, o, none⟩) (by simp; omega), World.cell?_alloc_past _ _ _ h2]
  refine ⟨?_, ?_, by omega⟩
  · intro j hj
    by_cases e : j = k
    · subst e
      exact ⟨v, by simp [hlen], leafy_kept (fun b o h1 h2 => hk24 b o (by simp at h1; omega) h2) (by simp; omega) (by omega) hv⟩
    · obtain ⟨u, hu, hl⟩ := hx j (by omega)
      refine ⟨u, by rw [List.getElem?_append_left (by omega)]; exact hu, leafy_kept (fun b o h1 h2 => ?_) (Nat.le_refl _) (by omega) hl⟩
      rw [hk24 b o h1 (by omega), hkr2 b o h2]
  · exact (((hBw.alloc (by omega) o1).trans (hB2.mono (by simp; omega))).alloc (by omega) o2).grown hg4 (by simp; omega) (by simp)

/-- A cell of the row of trees. -/
theorem xs_cell {w : World} {B X n cap j : Nat} {v : Value} {vs : List Value} (h : w.ownsRow B 29 1 (.slice (some ⟨X, 0, none⟩) n cap) n vs) (hv : vs[j]? = some v) : w.cell? ⟨X, j, none⟩ = some v := by
  have hc := h.cells (g := X) rfl j v hv
  rwa [Addr.add_lit, Nat.zero_add] at hc

theorem own_kept {w w' : World} {B e sz N n c : Nat} {xs : List Value} (h : w.ownsRow B e sz (.slice (some ⟨N, 0, none⟩) n c) n xs) (hb : Below w.heap.size w w') : w'.ownsRow B e sz (.slice (some ⟨N, 0, none⟩) n c) n xs :=
  h.kept (below_grown none hb) (Or.inr (by simp [Value.ownBlock]))

theorem one_new (w : World) (x : Value) (t : TypeId) : ∀ j u, [x][j]? = some u → (w.alloc (.cells #[x] t)).cell? ((⟨w.heap.size, 0, none⟩ : Addr).add j) = some u := by
  intro j u hu
  rw [Addr.add_lit, Nat.zero_add, World.cell?_alloc_new]
  simpa using hu
theorem iface_one (t : TypeId) (x : Value) : ∀ u ∈ [Value.iface t x], u.oneCell' = true := by
  intro u hu
  simp at hu
  subst hu; rfl

/-- The uses from place s on. -/
def sufU (U : Nat → List Use) : Nat → Nat → List Use
  | 0, _ => []
  | m + 1, s => U s ++ sufU U m (s + 1)
theorem cat_suf (U : Nat → List Use) : ∀ (m s : Nat), catU U (s + m) = catU U s ++ sufU U m s
  | 0, s => by simp [sufU]
  | m + 1, s => by
    have h := cat_suf U m (s + 1)
    rw [show s + (m + 1) = s + 1 + m by omega, h]
    show (catU U s ++ U s) ++ sufU U m (s + 1) = catU U s ++ (U s ++ sufU U m (s + 1))
    rw [List.append_assoc]
theorem suf_all (U : Nat → List Use) (n : Nat) : sufU U n 0 = catU U n := by
  have h := cat_suf U n 0
  rw [Nat.zero_add] at h
  rw [h]; rfl

/-- Two trees under a new node of three cells or more. -/
theorem tree_bin {w w' : World} {A d t g : Nat} {x y : Value} {ux uy : List Use} (ht : t = 51 ∨ t = 55 ∨ t = 58) (hb : Below w.heap.size w w') (hg : A ≤ g ∧ g < w'.heap.size) (h1 : w'.cell? ⟨g, 1, none⟩ = some x) (h2 : w'.cell? ⟨g, 2, none⟩ = some y)
    (hx : Tree w A w.heap.size d x ux) (hy : Tree w A w.heap.size d y uy) : Tree w' A w'.heap.size (d + 1) (.iface t (.pointer (some ⟨g, 0, none⟩))) (ux ++ uy) :=
  .inr (.inl ⟨t, g, x, y, ux, uy, ht, rfl, hg, h1, h2, tree_below hb hb.size hx, tree_below hb hb.size hy, rfl⟩)
theorem tree_un {w w' : World} {A d t g : Nat} {x : Value} {ux : List Use} (ht : t = 60 ∨ t = 61) (hb : Below w.heap.size w w') (hg : A ≤ g ∧ g < w'.heap.size) (h1 : w'.cell? ⟨g, 0, none⟩ = some x)
    (hx : Tree w A w.heap.size d x ux) : Tree w' A w'.heap.size (d + 1) (.iface t (.pointer (some ⟨g, 0, none⟩))) ux :=
  .inr (.inr (.inl ⟨t, g, x, ht, rfl, hg, h1, tree_below hb hb.size hx⟩))
theorem leaf_lower {w : World} {A A' B : Nat} {v : Value} {us : List Use} (hA : A' ≤ A) (h : Leafy w A B v us) : Leafy w A' B v us := leafy_kept (fun _ _ _ _ => rfl) hA (Nat.le_refl _) h
end Go.Proofs.Ybulkcgzg
