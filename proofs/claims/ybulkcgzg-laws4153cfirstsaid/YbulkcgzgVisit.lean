/- THE CONTRACT OF THE CLOSURE 'firstUse$1' (function 10). -/
import Derived.Test.YbulkcgzgTree
namespace Go.Proofs.Ybulkcgzg
open Go.RowKit
attribute [local go_sem] as69y as69n as75y as75n

set_option maxHeartbeats 400000 in
set_option maxRecDepth 100000 in
theorem visit_field_yes (g P NM : Nat) (n nm : ByteArray) (w : World) (hne : (n.toList == nm.toList) = true) (hn : w.cell? ⟨g, 0, none⟩ = some (.string n)) (hnm : w.cell? ⟨NM, 0, none⟩ = some (.string nm)) (hP : w.cell? ⟨P, 0, none⟩ = some (.pointer none)) (hf : w.frozen? ⟨P, 0, none⟩ = false) :
    Calls Yba.prog 10 #[.iface 69 (.pointer (some ⟨g, 0, none⟩)), .pointer (some ⟨P, 0, none⟩), .pointer (some ⟨NM, 0, none⟩)] w fun e w' => e = .returned (.tuple #[]) ∧ ∃ q, w' = (w.setCell ⟨P, 0, none⟩ (.pointer (some ⟨g, 5, none⟩))).drewN q := by
  go_enter Yba.func10, Yba.ntmps10
  go_wp2
  go_quiet (fail)
  go_wp2
  go_end0
  exact ⟨rfl, _, rfl⟩
set_option maxHeartbeats 400000 in
set_option maxRecDepth 100000 in
theorem visit_field_no (g P NM : Nat) (n nm : ByteArray) (w : World) (hne : (n.toList == nm.toList) = false) (hn : w.cell? ⟨g, 0, none⟩ = some (.string n)) (hnm : w.cell? ⟨NM, 0, none⟩ = some (.string nm)) (hP : w.cell? ⟨P, 0, none⟩ = some (.pointer none)) :
    Calls Yba.prog 10 #[.iface 69 (.pointer (some ⟨g, 0, none⟩)), .pointer (some ⟨P, 0, none⟩), .pointer (some ⟨NM, 0, none⟩)] w fun e w' => e = .returned (.tuple #[]) ∧ ∃ q, w' = w.drewN q := by
  go_enter Yba.func10, Yba.ntmps10
  go_wp2
  go_quiet (fail)
  go_wp2
  go_end0
  exact ⟨rfl, _, rfl⟩
set_option maxHeartbeats 400000 in
set_option maxRecDepth 100000 in
theorem visit_field_had (g P NM : Nat) (a : Addr) (w : World) (hP : w.cell? ⟨P, 0, none⟩ = some (.pointer (some a))) :
    Calls Yba.prog 10 #[.iface 69 (.pointer (some ⟨g, 0, none⟩)), .pointer (some ⟨P, 0, none⟩), .pointer (some ⟨NM, 0, none⟩)] w fun e w' => e = .returned (.tuple #[]) ∧ ∃ q, w' = w.drewN q := by
  go_enter Yba.func10, Yba.ntmps10
  go_wp2
  go_quiet (fail)
  go_wp2
  go_end0
  exact ⟨rfl, _, rfl⟩
set_option maxHeartbeats 400000 in
set_option maxRecDepth 100000 in
theorem visit_var_yes (g P NM : Nat) (n nm : ByteArray) (w : World) (hne : (n.toList == nm.toList) = true) (hn : w.cell? ⟨g, 0, none⟩ = some (.string n)) (hnm : w.cell? ⟨NM, 0, none⟩ = some (.string nm)) (hP : w.cell? ⟨P, 0, none⟩ = some (.pointer none)) (hf : w.frozen? ⟨P, 0, none⟩ = false) :
    Calls Yba.prog 10 #[.iface 75 (.pointer (some ⟨g, 0, none⟩)), .pointer (some ⟨P, 0, none⟩), .pointer (some ⟨NM, 0, none⟩)] w fun e w' => e = .returned (.tuple #[]) ∧ ∃ q, w' = (w.setCell ⟨P, 0, none⟩ (.pointer (some ⟨g, 1, none⟩))).drewN q := by
  go_enter Yba.func10, Yba.ntmps10
  go_wp2
  go_quiet (fail)
  go_wp2
  go_end0
  exact ⟨rfl, _, rfl⟩
set_option maxHeartbeats 400000 in
set_option maxRecDepth 100000 in
theorem visit_var_no (g P NM : Nat) (n nm : ByteArray) (w : World) (hne : (n.toList == nm.toList) = false) (hn : w.cell? ⟨g, 0, none⟩ = some (.string n)) (hnm : w.cell? ⟨NM, 0, none⟩ = some (.string nm)) (hP : w.cell? ⟨P, 0, none⟩ = some (.pointer none)) :
    Calls Yba.prog 10 #[.iface 75 (.pointer (some ⟨g, 0, none⟩)), .pointer (some ⟨P, 0, none⟩), .pointer (some ⟨NM, 0, none⟩)] w fun e w' => e = .returned (.tuple #[]) ∧ ∃ q, w' = w.drewN q := by
  go_enter Yba.func10, Yba.ntmps10
  go_wp2
  go_quiet (fail)
  go_wp2
  go_end0
  exact ⟨rfl, _, rfl⟩
set_option maxHeartbeats 400000 in
set_option maxRecDepth 100000 in
theorem visit_var_had (g P NM : Nat) (a : Addr) (w : World) (hP : w.cell? ⟨P, 0, none⟩ = some (.pointer (some a))) :
    Calls Yba.prog 10 #[.iface 75 (.pointer (some ⟨g, 0, none⟩)), .pointer (some ⟨P, 0, none⟩), .pointer (some ⟨NM, 0, none⟩)] w fun e w' => e = .returned (.tuple #[]) ∧ ∃ q, w' = w.drewN q := by
  go_enter Yba.func10, Yba.ntmps10
  go_wp2
  go_quiet (fail)
  go_wp2
  go_end0
  exact ⟨rfl, _, rfl⟩
set_option maxHeartbeats 400000 in
set_option maxRecDepth 100000 in
theorem visit_other (t : TypeId) (x : Value) (P NM : Nat) (w : World) (h1 : t ≠ 69) (h2 : t ≠ 75) :
    Calls Yba.prog 10 #[.iface t x, .pointer (some ⟨P, 0, none⟩), .pointer (some ⟨NM, 0, none⟩)] w fun e w' => e = .returned (.tuple #[]) ∧ w' = w := by
  go_enter Yba.func10, Yba.ntmps10
  go_wp2
  go_end0
  exact ⟨rfl, rfl⟩

/-- What the closure does to its state at a leaf's name, place and address. -/
theorem st_yes {w : World} {B P NM g o : Nat} {n nm : ByteArray} {l c : Int} {q : Nat} (h : St w B P NM nm none) (hg : g < B) (hne : (n.toList == nm.toList) = true) (h1 : w.cell? ⟨g, o, none⟩ = some (.int .i64 l)) (h2 : w.cell? ⟨g, o + 1, none⟩ = some (.int .i64 c)) :
    St ((w.setCell ⟨P, 0, none⟩ (.pointer (some ⟨g, o, none⟩))).drewN q) B P NM nm (upd nm none [(n, l, c)]) := by
  obtain ⟨k1, k2, k3, k4, k5, k6⟩ := h
  have hP : w.cell? ⟨P, 0, none⟩ = some (.pointer none) := by
    rcases k6 with ⟨_, k⟩ | ⟨_, _, _, _, e, _⟩
    · exact k
    · cases e
  refine ⟨?_, by simpa using k2, k3, k4, k5, .inr ⟨l, c, g, o, by simp [upd, findU, hne], hg, ?_, ?_, ?_⟩⟩
  · rw [World.cell?_drewN, World.cell?_setCell_other _ _ _ _ (by intro e; injection e; omega)]; exact k1
  · rw [World.cell?_drewN]; exact World.cell?_setCell_same w _ _ hP
  · rw [World.cell?_drewN, World.cell?_setCell_other _ _ _ _ (by intro e; injection e; omega)]; exact h1
  · rw [World.cell?_drewN, World.cell?_setCell_other _ _ _ _ (by intro e; injection e; omega)]; exact h2

theorem grown_set (w : World) (P q : Nat) (v : Value) : w.grownBy ((w.setCell ⟨P, 0, none⟩ v).drewN q) (some P) :=
  ⟨rfl, rfl, rfl, by simp [World.setCell], fun k _ hne => Below.heap_setCell w ⟨P, 0, none⟩ v k (by intro e; subst e; simp at hne)⟩
theorem below_drew (w : World) (q : Nat) : Below w.heap.size w (w.drewN q) := below_drewN (Below.refl _ _) q

/-- THE CLOSURE AT A LEAF. -/
theorem visit_leafy {w : World} {B P NM : Nat} {nm : ByteArray} {m : Option (Int × Int)} {A : Nat} {v : Value} {us : List Use} (hs : St w B P NM nm m) (hl : Leafy w A B v us) :
    Calls Yba.prog 10 #[v, .pointer (some ⟨P, 0, none⟩), .pointer (some ⟨NM, 0, none⟩)] w fun e w' => e = .returned (.tuple #[]) ∧ St w' B P NM nm (upd nm m us) ∧ w.grownBy w' (some P) := by
  have hs0 := hs
  obtain ⟨k1, k2, k3, k4, k5, k6⟩ := hs
  rcases hl with ⟨g, n, l, c, rfl, hg, h1, h2, h3, rfl⟩ | ⟨g, n, l, c, rfl, hg, h1, h2, h3, rfl⟩ | ⟨t, x, ht, rfl, rfl⟩
  · rcases k6 with ⟨rfl, kP⟩ | ⟨l0, c0, b0, o0, rfl, _, kP, _⟩
    · cases hne : (n.toList == nm.toList)
      · refine (visit_field_no g P NM n nm w hne h1 k1 kP).mono ?_
        rintro e w' ⟨rfl, q, rfl⟩
        exact ⟨rfl, by rw [show upd nm none [(n, l, c)] = none by simp [upd, findU, hne]]; exact hs0.kept (below_drew w q), below_grown _ (below_drew w q)⟩
      · refine (visit_field_yes g P NM n nm w hne h1 k1 kP k2).mono ?_
        rintro e w' ⟨rfl, q, rfl⟩
        exact ⟨rfl, st_yes hs0 hg.2 hne h2 h3, grown_set w P q _⟩
    · refine (visit_field_had g P NM _ w kP).mono ?_
      rintro e w' ⟨rfl, q, rfl⟩
      exact ⟨rfl, hs0.kept (below_drew w q), below_grown _ (below_drew w q)⟩
  · rcases k6 with ⟨rfl, kP⟩ | ⟨l0, c0, b0, o0, rfl, _, kP, _⟩
    · cases hne : (n.toList == nm.toList)
      · refine (visit_var_no g P NM n nm w hne h1 k1 kP).mono ?_
        rintro e w' ⟨rfl, q, rfl⟩
        exact ⟨rfl, by rw [show upd nm none [(n, l, c)] = none by simp [upd, findU, hne]]; exact hs0.kept (below_drew w q), below_grown _ (below_drew w q)⟩
      · refine (visit_var_yes g P NM n nm w hne h1 k1 kP k2).mono ?_
        rintro e w' ⟨rfl, q, rfl⟩
        exact ⟨rfl, st_yes hs0 hg.2 hne h2 h3, grown_set w P q _⟩
    · refine (visit_var_had g P NM _ w kP).mono ?_
      rintro e w' ⟨rfl, q, rfl⟩
      exact ⟨rfl, hs0.kept (below_drew w q), below_grown _ (below_drew w q)⟩
  · refine (visit_other t x P NM w (by rcases ht with rfl | rfl <;> decide) (by rcases ht with rfl | rfl <;> decide)).mono ?_
    rintro e w' ⟨rfl, rfl⟩
    exact ⟨rfl, by rw [upd_nil]; exact hs0, World.grownBy.refl _ _⟩
end Go.Proofs.Ybulkcgzg
