/- HOW THE STATEMENTS THAT CAME IN ARE READ. -/
import Derived.Test.YbulkcgzgRows
import Derived.Test.YbulkcgzgLaw
import Derived.ProofKit
import Derived.OpenShut
import Derived.Deep.SlicePairs
import Derived.Lib.SmallJoins
import Derived.SizedLaws
namespace Go.Proofs.Ybulkcgzg
open Go.ChangeShapes Go.WideShapes Go.ChangeAt Go.RowKit Go.Deep Go.Joins

theorem cells46 : Yba.prog.cellsOf 46 = 4 := by kernel_rfl
theorem cells25 : Yba.prog.cellsOf 25 = 2 := by kernel_rfl
theorem cells5 : Yba.prog.cellsOf 5 = 1 := by kernel_rfl
theorem cells3 : Yba.prog.cellsOf 3 = 1 := by kernel_rfl
theorem cells23 : Yba.prog.cellsOf 23 = 1 := by kernel_rfl
theorem bytes46 : Yba.prog.bytesOf 46 = 24 := by kernel_rfl

theorem list4 {α : Type} {l : List α} (h : l.length = 4) : ∃ a b c d, l = [a, b, c, d] := by
  match l, h with
  | [a, b, c, d], _ => exact ⟨a, b, c, d, rfl⟩

section
variable {H : Type} {enc : TypeId × Value → H}

/-- One leaf, read. -/
theorem open_leaf {w : World} {base fuel : Nat} {cs : List Value} {x : DataW H × List MemPlace} (h : DataW.trod enc Yba.prog w base (fun _ => true) true fuel 46 cs = some x) :
    ∃ d : LeafD, cs = [.int .u8 d.kind, .int .u8 d.name, .int .i64 d.line, .int .i64 d.col] ∧ (0 ≤ d.kind ∧ d.kind ≤ 255 ∧ 0 ≤ d.name ∧ d.name ≤ 255) := by
  obtain ⟨y0, y1, y2, y3, n, _, hlen, h0, h1, h2, h3⟩ := trod_struct4 Yba.underlying46 h
  rw [cells46] at hlen
  obtain ⟨c0, c1, c2, c3, rfl⟩ := list4 hlen
  · simp only [cells5, cells3] at h0 h1 h2 h3
    obtain ⟨k, e0, _, wk⟩ := DataW.trod_int Yba.underlying5 h0
    obtain ⟨m, e1, _, wm⟩ := DataW.trod_int Yba.underlying5 h1
    obtain ⟨l, e2, _, _⟩ := DataW.trod_int Yba.underlying3 h2
    obtain ⟨c, e3, _, _⟩ := DataW.trod_int Yba.underlying3 h3
    simp at e0 e1 e2 e3
    subst e0; subst e1; subst e2; subst e3
    have bk := bounds_u8 wk
    have bm := bounds_u8 wm
    exact ⟨⟨k, m, l, c⟩, rfl, bk.1, bk.2, bm.1, bm.2⟩

/-- A row of leaves, read. -/
theorem open_leaves {w : World} {base fuel : Nat} {v : Value} {x : DataW H × List MemPlace} (h : DataW.trod enc Yba.prog w base (fun _ => true) true fuel 23 [v] = some x) :
    ∃ (a : Option Addr) (n c : Nat) (D : Nat → LeafD), v = .slice a n c ∧ LeafRow w a n D ∧ (n = 0 ∨ ∃ elems spare, x.1 = .slice elems spare ∧ elems.length = n) := by
  rcases open_slice Yba.underlying23 h with ⟨hcs, _⟩ | ⟨a, len, cap, m, n, D, Pl, hcs, _, hl, hm, hmm, rfl, hx⟩
  · simp at hcs
    subst hcs
    exact ⟨none, 0, 0, fun _ => ⟨0, 0, 0, 0⟩, rfl, ⟨fun j hj => absurd hj (by omega), fun h0 => absurd h0 (by omega)⟩, .inl rfl⟩
  · simp at hcs hmm
    subst hcs
    subst hmm
    have each : ∀ i, i < m → ∃ d : LeafD, (w.cell? (a.add (i * 4)) = some (.int .u8 d.kind) ∧ w.cell? (a.add (i * 4 + 1)) = some (.int .u8 d.name) ∧ w.cell? (a.add (i * 4 + 2)) = some (.int .i64 d.line) ∧ w.cell? (a.add (i * 4 + 3)) = some (.int .i64 d.col)) ∧
        (0 ≤ d.kind ∧ d.kind ≤ 255 ∧ 0 ≤ d.name ∧ d.name ≤ 255) := by
      intro i hi
      obtain ⟨cs', h1, h2⟩ := hx i hi
      rw [cells46] at h1
      obtain ⟨_, hlen, hcell⟩ := World.cells?_some h1
      obtain ⟨d, rfl, hd⟩ := open_leaf h2
      have e0 := hcell 0 (by omega)
      have e1 := hcell 1 (by omega)
      have e2 := hcell 2 (by omega)
      have e3 := hcell 3 (by omega)
      rw [add_add] at e0 e1 e2 e3
      exact ⟨d, ⟨by simpa using e0, by simpa using e1, by simpa using e2, by simpa using e3⟩, hd⟩
    obtain ⟨f, hf⟩ : ∃ f : Nat → LeafD, ∀ i, i < m → (w.cell? (a.add (i * 4)) = some (.int .u8 (f i).kind) ∧ w.cell? (a.add (i * 4 + 1)) = some (.int .u8 (f i).name) ∧ w.cell? (a.add (i * 4 + 2)) = some (.int .i64 (f i).line) ∧ w.cell? (a.add (i * 4 + 3)) = some (.int .i64 (f i).col)) ∧
        (0 ≤ (f i).kind ∧ (f i).kind ≤ 255 ∧ 0 ≤ (f i).name ∧ (f i).name ≤ 255) := by
      refine ⟨fun i => if hi : i < m then Classical.choose (each i hi) else ⟨0, 0, 0, 0⟩, fun i hi => ?_⟩
      simp only [hi, dif_pos]
      exact Classical.choose_spec (each i hi)
    refine ⟨some a, len, m, f, rfl, ⟨fun j hj => (hf j (by omega)).2, fun h0 => ?_⟩, .inr ⟨_, _, rfl, by simp⟩⟩
    obtain ⟨b, off, spot⟩ := a
    have hspot : spot = none := by simpa [Addr.add] using World.cell?_spot (hf 0 (by omega)).1.1
    subst hspot
    refine ⟨b, off, rfl, ?_, fun j hj => ?_⟩
    · have := World.block_lt_of_cell? w _ (hf 0 (by omega)).1.1; simpa [Addr.add] using this
    · obtain ⟨⟨g0, g1, g2, g3⟩, _⟩ := hf j (by omega)
      rw [Addr.add_lit] at g0 g1 g2 g3
      exact ⟨g0, by rw [Nat.add_assoc]; exact g1, by rw [Nat.add_assoc]; exact g2, by rw [Nat.add_assoc]; exact g3⟩

theorem weights_all {P : Program} {e : TypeId} {d : DataW H} {k : Nat} : ∀ {l : List (DataW H)}, d ∈ l → k ∈ d.weights P e → k ∈ DataW.weightsAll P e l
  | d0 :: r, hd, hk => by
    rw [DataW.weightsAll]
    rcases List.mem_cons.1 hd with rfl | hd
    · exact List.mem_append_left _ hk
    · exact List.mem_append_right _ (weights_all hd hk)

/-- The statements, read, and the size of each one's leaves. -/
theorem open_stmts {w : World} {base fuel : Nat} {v : Value} {x : DataW H × List MemPlace} (h : DataW.trod enc Yba.prog w base (fun _ => true) true fuel 22 [v] = some x) (hsz : ∀ k ∈ x.1.weights Yba.prog 22, k ≤ reachBytes) :
    ∃ (a : Option Addr) (n c : Nat) (S : Nat → StmtD), v = .slice a n c ∧ StmtRow w a n S ∧ ∀ i, i < n → (S i).n ≤ 140737488355328 := by
  rcases open_slice_pairs Yba.underlying22 Yba.underlying25 cells25 rfl rfl cells5 cells23 h with ⟨hcs, _⟩ | ⟨a, len, cap, m, n, V0, V1, D0, D1, P0, P1, hcs, _, hl, hm, hmm, rfl, hx⟩
  · simp at hcs
    subst hcs
    exact ⟨none, 0, 0, fun _ => ⟨0, none, 0, 0, fun _ => ⟨0, 0, 0, 0⟩⟩, rfl, ⟨fun j hj => absurd hj (by omega), fun h0 => absurd h0 (by omega)⟩, fun j hj => absurd hj (by omega)⟩
  · simp at hcs hmm
    subst hcs
    subst hmm
    have each : ∀ i, i < len → ∃ s : StmtD, (w.cell? (a.add (i * 2)) = some (.int .u8 s.sh) ∧ w.cell? (a.add (i * 2 + 1)) = some (.slice s.a s.n s.c)) ∧ (0 ≤ s.sh ∧ s.sh ≤ 255 ∧ LeafRow w s.a s.n s.D) ∧ s.n ≤ 140737488355328 := by
      intro i hi
      obtain ⟨g0, g1, t0, t1⟩ := hx i (by omega)
      obtain ⟨k, e0, _, wk⟩ := DataW.trod_int Yba.underlying5 t0
      obtain ⟨a', n', c', D, e1, hrow, hlen⟩ := open_leaves t1
      simp at e0
      rw [e0] at g0
      rw [e1] at g1
      have bk := bounds_u8 wk
      refine ⟨⟨k, a', n', c', D⟩, ⟨g0, g1⟩, ⟨bk.1, bk.2, hrow⟩, ?_⟩
      rcases hlen with h0 | ⟨elems, spare, hd, hel⟩
      · show n' ≤ _; omega
      · have hw : (elems.length + spare.length) * Yba.prog.bytesOf 46 ∈ (D1 i).weights Yba.prog 23 := by
          rw [show D1 i = .slice elems spare from hd, DataW.weights, Yba.underlying23]; exact List.mem_cons_self ..
        have hw2 : (elems.length + spare.length) * Yba.prog.bytesOf 46 ∈ (DataW.agg [D0 i, D1 i] : DataW H).weights Yba.prog 25 := by
          rw [DataW.weights, Yba.underlying25]
          exact DataW.weights_mem_each (j := 1) (t := 23) (d := D1 i) rfl rfl _ hw
        have hw3 : (elems.length + spare.length) * Yba.prog.bytesOf 46 ∈ (DataW.slice ((List.range len).map fun i => .agg [D0 i, D1 i]) ((List.range (m - len)).map fun j => .agg [D0 (len + j), D1 (len + j)]) : DataW H).weights Yba.prog 22 := by
          rw [DataW.weights, Yba.underlying22]
          refine List.mem_cons_of_mem _ (List.mem_append_left _ (weights_all (d := .agg [D0 i, D1 i]) ?_ hw2))
          exact List.mem_map.2 ⟨i, List.mem_range.2 hi, rfl⟩
        have := hsz _ hw3
        rw [bytes46] at this
        unfold reachBytes at this
        show n' ≤ _
        omega
    obtain ⟨f, hf⟩ : ∃ f : Nat → StmtD, ∀ i, i < len → (w.cell? (a.add (i * 2)) = some (.int .u8 (f i).sh) ∧ w.cell? (a.add (i * 2 + 1)) = some (.slice (f i).a (f i).n (f i).c)) ∧ (0 ≤ (f i).sh ∧ (f i).sh ≤ 255 ∧ LeafRow w (f i).a (f i).n (f i).D) ∧ (f i).n ≤ 140737488355328 := by
      refine ⟨fun i => if hi : i < len then Classical.choose (each i hi) else ⟨0, none, 0, 0, fun _ => ⟨0, 0, 0, 0⟩⟩, fun i hi => ?_⟩
      simp only [hi, dif_pos]
      exact Classical.choose_spec (each i hi)
    refine ⟨some a, len, m, f, rfl, ⟨fun j hj => (hf j hj).2.1, fun h0 => ?_⟩, fun i hi => (hf i hi).2.2⟩
    obtain ⟨b, off, spot⟩ := a
    have hspot : spot = none := by simpa [Addr.add] using World.cell?_spot (hf 0 h0).1.1
    subst hspot
    refine ⟨b, off, rfl, ?_, fun j hj => ?_⟩
    · have := World.block_lt_of_cell? w _ (hf 0 h0).1.1; simpa [Addr.add] using this
    · obtain ⟨⟨g0, g1⟩, _⟩ := hf j hj
      rw [Addr.add_lit] at g0 g1
      exact ⟨g0, by rw [Nat.add_assoc]; exact g1⟩
end
end Go.Proofs.Ybulkcgzg
