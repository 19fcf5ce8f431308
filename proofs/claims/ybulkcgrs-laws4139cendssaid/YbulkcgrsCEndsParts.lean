/- WHAT THE WALK OF 'xcsp3.LawS4139CEnds' CARRIES ROUND ITS SECOND LOOP: no function of the program is named here. -/
import Derived.Test.YbulkcgrsKit
import Derived.Deep.Draws
namespace Go.Proofs.Ybulkcgrs.CEnds
open Go.RowKit Go.Proofs.Ybulkcgrs.Kit

/-- A domain that the call itself has made, in a block behind N: a row of at least one and at most 1024 ints. -/
def GoodVar (w : World) (N : Nat) (v : Value) : Prop :=
  ∃ (g l : Nat) (zs : List Int), v = .slice (some ⟨g, 0, none⟩) l l ∧ N < g ∧ 0 < l ∧ l ≤ 1024 ∧ zs.length = l ∧ (∀ n ∈ zs, -9223372036854775808 ≤ n ∧ n ≤ 9223372036854775807) ∧
    ∀ c, c < l → w.cell? ⟨g, c, none⟩ = some (.int .i64 (zs.getD c 0))

/-- Of m variables, two cells each, every second cell is such a domain. -/
def Vars (w : World) (N m : Nat) (xs : List Value) : Prop := ∀ j, j < m → ∃ v, xs[j * 2 + 1]? = some v ∧ GoodVar w N v

theorem goodvar_kept {w w' : World} {N : Nat} {v : Value} (hk : ∀ b o, N < b → b < w.heap.size → w'.cell? ⟨b, o, none⟩ = w.cell? ⟨b, o, none⟩) (h : GoodVar w N v) : GoodVar w' N v := by
  obtain ⟨g, l, zs, hv, hg, h0, hl, hz, hb, hc⟩ := h
  refine ⟨g, l, zs, hv, hg, h0, hl, hz, hb, fun c hcl => ?_⟩
  rw [hk g c hg (by have := World.block_lt_of_cell? w _ (hc c hcl); simpa using this)]
  exact hc c hcl

theorem below_grownBy {w w' : World} (h : Below w.heap.size w w') : w.grownBy w' none := ⟨h.os, h.tape, h.output, h.size, fun k hk _ => h.block k hk⟩

/-- One round: a new domain 'v' in the world w2, boxed, appended. -/
theorem round_step {N m : Nat} {w wr w2 w4 : World} {xs : List Value} {s v : Value} {o : Obj} (hBw : Below N w wr) (hNr : N < wr.heap.size) (hB2 : Below wr.heap.size wr w2)
    (hxs : xs.length = m * 2) (hV : Vars wr N m xs) (hgood : GoodVar w2 N v)
    (hg4 : (w2.alloc o).grownBy w4 (some N)) :
    Vars w4 N (m + 1) (xs ++ [s, v]) ∧ Below N w w4 ∧ N < w4.heap.size := by
  have hk : ∀ b o', N < b → b < w2.heap.size → w4.cell? ⟨b, o', none⟩ = w2.cell? ⟨b, o', none⟩ := by
    intro b o' h1 h2
    have e := hg4.block b (by simp; omega) (by simp; omega)
    rw [World.cell?_of_block (w := w2.alloc o) (a := ⟨b, o', none⟩) e, World.cell?_alloc_past _ _ _ h2]
  have hs := hB2.size
  refine ⟨?_, ?_, ?_⟩
  · intro j hj
    by_cases e : j = m
    · subst e
      exact ⟨v, by simp [hxs], goodvar_kept hk hgood⟩
    · obtain ⟨u, hu, hgu⟩ := hV j (by omega)
      refine ⟨u, by rw [List.getElem?_append_left (by omega)]; exact hu, goodvar_kept (fun b o' h1 h2 => ?_) hgu⟩
      rw [hk b o' h1 (by omega)]
      exact hB2.cell (p := ⟨b, o', none⟩) h2
  · have h1 : Below N w (w2.alloc o) := (hBw.trans (hB2.mono (by omega))).alloc (by omega) o
    exact h1.grown hg4 (by simp; omega) (by simp)
  · have := hg4.size; simp at this; omega

/-- The form of a slice that is owned and not nil. -/
theorem own_form {w : World} {B e n : Nat} {v : Value} {zs : List Int} (h : w.ownsRow B e 1 v n (zs.map (Value.int .i64))) (hn : v ≠ .slice none 0 0) :
    ∃ g c, v = .slice (some ⟨g, 0, none⟩) n c ∧ B ≤ g ∧ ∀ j, j < n → w.cell? ⟨g, j, none⟩ = some (.int .i64 (zs.getD j 0)) := by
  rcases h.2 with ⟨h2, _⟩ | ⟨g, cap, cur, hv, hg, _⟩
  · exact absurd h2 hn
  · refine ⟨g, cap, hv, hg, fun j hj => ?_⟩
    have hl : zs.length = n := by simpa using h.1
    have hc := h.cells (g := g) (by rw [hv]; rfl) j (.int .i64 (zs.getD j 0)) (by simp [List.getD, show j < zs.length by omega])
    rwa [Addr.add_lit, Nat.zero_add] at hc

/-- A cell of an owned row of pairs. -/
theorem pair_cell {w : World} {N e n cap k : Nat} {v : Value} {xs : List Value} (h : w.ownsRow N e 2 (.slice (some ⟨N, 0, none⟩) n cap) n xs) (hv : xs[k * 2 + 1]? = some v) : w.cell? ⟨N, k * 2 + 1, none⟩ = some v := by
  have hc := h.cells (g := N) rfl (k * 2 + 1) v hv
  rwa [Addr.add_lit, Nat.zero_add] at hc

end Go.Proofs.Ybulkcgrs.CEnds
