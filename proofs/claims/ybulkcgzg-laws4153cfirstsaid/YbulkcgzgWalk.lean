/- THE CONTRACT OF 'Walk' (function 9), by induction on the tree's storeys. -/
import Derived.Test.YbulkcgzgVisit
import Derived.Test.YbulkcgzgChildren
namespace Go.Proofs.Ybulkcgzg
open Go.RowKit

theorem leafy_form {w : World} {A B : Nat} {v : Value} {us : List Use} (h : Leafy w A B v us) : ∃ (t : TypeId) (x : Value), v = .iface t x ∧ t ≠ 51 ∧ t ≠ 60 ∧ t ≠ 55 ∧ t ≠ 61 ∧ t ≠ 58 ∧ t ≠ 48 := by
  rcases h with ⟨g, nm, l, c, rfl, _⟩ | ⟨g, nm, l, c, rfl, _⟩ | ⟨t, x, ht, rfl, _⟩
  · exact ⟨69, _, rfl, by decide, by decide, by decide, by decide, by decide, by decide⟩
  · exact ⟨75, _, rfl, by decide, by decide, by decide, by decide, by decide, by decide⟩
  · refine ⟨t, x, rfl, ?_⟩
    rcases ht with rfl | rfl <;> decide

set_option maxHeartbeats 400000 in
set_option maxRecDepth 100000 in
theorem walk_leafy {w : World} {B P NM : Nat} {nm : ByteArray} {m : Option (Int × Int)} {A : Nat} {v : Value} {us : List Use} (hs : St w B P NM nm m) (hl : Leafy w A B v us) :
    Calls Yba.prog 9 #[v, .func (.func 10) #[] #[.pointer (some ⟨P, 0, none⟩), .pointer (some ⟨NM, 0, none⟩)]] w fun e w' => e = .returned (.tuple #[]) ∧ St w' B P NM nm (upd nm m us) ∧ w.grownBy w' (some P) := by
  obtain ⟨t, x, rfl, t1, t2, t3, t4, t5, t6⟩ := leafy_form hl
  have HS := hid hs
  have HL := hid hl
  clear hs hl
  go_enter Yba.func9, Yba.ntmps9
  go_wp2_with fail
  refine (visit_leafy HS.out HL.out).mono ?_
  rintro e w1 ⟨rfl, hs1, hg1⟩
  have HS1 := hid hs1
  have HG1 := hid hg1
  clear hs1 hg1
  go_wp2_with fail
  refine (children_leaf t x _ t1 t2 t3 t4 t5 t6).mono ?_
  rintro e w2 ⟨rfl, rfl⟩
  go_wp2
  go_loopw [12] (fun i wr => i = .int .i64 0 ∧ wr = w2) (fun i _ => 0)
  case atStart => exact ⟨rfl, rfl⟩
  case round =>
    obtain ⟨rfl, rfl⟩ := hrel
    go_wp2
    go_end0
    exact ⟨rfl, HS1.out, HG1.out⟩

/-- What 'children' hands back of a node: a row of trees. -/
def Kids (w : World) (B : Nat) (T : Value → List Use → Prop) (us : List Use) (e : Ending) (w' : World) : Prop :=
  ∃ (a : Option Addr) (n c : Nat) (V : Nat → Value) (U : Nat → List Use), e = .returned (.slice a n c) ∧ n ≤ 4096 ∧ Below w.heap.size w w' ∧
    (0 < n → ∃ h, a = some ⟨h, 0, none⟩ ∧ (h < B ∨ w.heap.size ≤ h) ∧ ∀ j, j < n → w'.cell? ⟨h, j, none⟩ = some (V j)) ∧ (∀ j, j < n → T (V j) (U j)) ∧ us = catU U n

theorem leafy_iface {w : World} {A B : Nat} {v : Value} {us : List Use} (h : Leafy w A B v us) : ∃ (t : TypeId) (x : Value), v = .iface t x := by
  obtain ⟨t, x, h, _⟩ := leafy_form h; exact ⟨t, x, h⟩
theorem tree_iface {w : World} {A B : Nat} {v : Value} {us : List Use} : ∀ {d : Nat}, Tree w A B d v us → ∃ (t : TypeId) (x : Value), v = .iface t x
  | 0, h => leafy_iface h
  | _ + 1, h => by
    rcases h with h | ⟨t, g, x, y, ux, uy, _, hv, _⟩ | ⟨t, g, x, _, hv, _⟩ | ⟨g, n, c, a, V, U, hv, _⟩
    · exact leafy_iface h
    · exact ⟨_, _, hv⟩
    · exact ⟨_, _, hv⟩
    · exact ⟨_, _, hv⟩

theorem cat_two (ux uy : List Use) : ux ++ uy = catU (fun j => if j = 0 then ux else uy) 2 := by simp [catU]
theorem cat_one (ux : List Use) : ux = catU (fun _ => ux) 1 := by simp [catU]

/-- THE CONTRACT OF 'children' AT A NODE. -/
theorem kids_node {w : World} {A B d : Nat} {v : Value} {us : List Use} (hn : Node w A B (Tree w A B d) v us) :
    ∃ (t : TypeId) (x : Value), v = .iface t x ∧ t ≠ 69 ∧ t ≠ 75 ∧ Calls Yba.prog 11 #[.iface t x] w (Kids w B (Tree w A B d) us) := by
  rcases hn with ⟨t, g, x, y, ux, uy, ht, rfl, hg, h1, h2, hx, hy, rfl⟩ | ⟨t, g, x, ht, rfl, hg, h1, hx⟩ | ⟨g, n, c, a, V, U, rfl, hg, h1, hnn, hrow, hV, rfl⟩
  · obtain ⟨tx, vx, rfl⟩ := tree_iface hx
    obtain ⟨ty, vy, rfl⟩ := tree_iface hy
    have fin : ∀ (e : Ending) (w' : World), (e = .returned (.slice (some ⟨w.heap.size, 0, none⟩) 2 2) ∧ w' = (w.alloc (.cells #[.iface tx vx, .iface ty vy] 29)).drew) → Kids w B (Tree w A B d) (ux ++ uy) e w' := by
      rintro e w' ⟨rfl, rfl⟩
      refine ⟨some ⟨w.heap.size, 0, none⟩, 2, 2, fun j => if j = 0 then .iface tx vx else .iface ty vy, fun j => if j = 0 then ux else uy, rfl, by omega, ((Below.refl _ w).alloc (Nat.le_refl _) _).drew, fun _ => ⟨w.heap.size, rfl, .inr (Nat.le_refl _), fun j hj => ?_⟩, fun j hj => ?_, cat_two ux uy⟩
      · rw [World.cell?_drew, World.cell?_alloc_new]
        match j, hj with
        | 0, _ => rfl
        | 1, _ => rfl
      · match j, hj with
        | 0, _ => exact hx
        | 1, _ => exact hy
    rcases ht with rfl | rfl | rfl
    · exact ⟨51, _, rfl, by decide, by decide, (children_bin51 g tx ty vx vy w h1 h2).mono fin⟩
    · exact ⟨55, _, rfl, by decide, by decide, (children_bin55 g tx ty vx vy w h1 h2).mono fin⟩
    · exact ⟨58, _, rfl, by decide, by decide, (children_bin58 g tx ty vx vy w h1 h2).mono fin⟩
  · obtain ⟨tx, vx, rfl⟩ := tree_iface hx
    have fin : ∀ (e : Ending) (w' : World), (e = .returned (.slice (some ⟨w.heap.size, 0, none⟩) 1 1) ∧ w' = w.alloc (.cells #[.iface tx vx] 29)) → Kids w B (Tree w A B d) us e w' := by
      rintro e w' ⟨rfl, rfl⟩
      refine ⟨some ⟨w.heap.size, 0, none⟩, 1, 1, fun _ => .iface tx vx, fun _ => us, rfl, by omega, (Below.refl _ w).alloc (Nat.le_refl _) _, fun _ => ⟨w.heap.size, rfl, .inr (Nat.le_refl _), fun j hj => ?_⟩, fun j hj => hx, cat_one us⟩
      obtain rfl : j = 0 := by omega
      rw [World.cell?_alloc_new]; rfl
    rcases ht with rfl | rfl
    · exact ⟨60, _, rfl, by decide, by decide, (children_un60 g tx vx w h1).mono fin⟩
    · exact ⟨61, _, rfl, by decide, by decide, (children_un61 g tx vx w h1).mono fin⟩
  · refine ⟨48, _, rfl, by decide, by decide, (children_call g n c a w h1).mono ?_⟩
    rintro e w' ⟨rfl, rfl⟩
    refine ⟨a, n, c, V, U, rfl, hnn, Below.refl _ _, fun h0 => ?_, hV, rfl⟩
    obtain ⟨h, ha, hh, hc⟩ := hrow h0
    exact ⟨h, ha, .inl hh.2, hc⟩

set_option maxHeartbeats 400000 in
set_option maxRecDepth 100000 in
/-- A node, its subtrees being walked as they should. -/
theorem walk_node {w : World} {A B P NM d : Nat} {nm : ByteArray} {m : Option (Int × Int)} {v : Value} {us : List Use} (hs : St w B P NM nm m) (hn : Node w A B (Tree w A B d) v us)
    (ih : ∀ (v : Value) (us : List Use) (w : World) (m : Option (Int × Int)), Tree w A B d v us → St w B P NM nm m →
      Calls Yba.prog 9 #[v, .func (.func 10) #[] #[.pointer (some ⟨P, 0, none⟩), .pointer (some ⟨NM, 0, none⟩)]] w fun e w' => e = .returned (.tuple #[]) ∧ St w' B P NM nm (upd nm m us) ∧ w.grownBy w' (some P)) :
    Calls Yba.prog 9 #[v, .func (.func 10) #[] #[.pointer (some ⟨P, 0, none⟩), .pointer (some ⟨NM, 0, none⟩)]] w fun e w' => e = .returned (.tuple #[]) ∧ St w' B P NM nm (upd nm m us) ∧ w.grownBy w' (some P) := by
  obtain ⟨t, x, rfl, t1, t2, hkids⟩ := kids_node hn
  have HS := hid hs
  have HI := hid ih
  have HKD := hid hkids
  clear hs hn ih hkids
  go_enter Yba.func9, Yba.ntmps9
  go_wp2_with fail
  refine (visit_other t x P NM _ t1 t2).mono ?_
  rintro e w1 ⟨rfl, rfl⟩
  go_wp2_with fail
  refine HKD.out.mono ?_
  rintro e w2 ⟨a, n, c, V, U, rfl, hn4, hB2, hrow, hV, rfl⟩
  have HROW := hid hrow
  have HV := hid hV
  have hlt := HS.out.lt
  have hs2 := hB2.size
  have hle : (n : Int) ≤ 4096 := by omega
  have HS2 := hid (HS.out.kept hB2)
  have hPB : B ≤ P := HS.out.2.2.2.1
  have HB2 := hid hB2
  clear hrow hV hB2
  go_wp2_with fail
  go_loopw [12] (fun i wr => ∃ k : Nat, k ≤ n ∧ i = .int .i64 k ∧ Hid (St wr B P NM nm (upd nm m (catU U k))) ∧ Hid (w2.grownBy wr (some P))) (fun i _ => n - (intOf i).toNat)
  case atStart => exact ⟨0, by omega, rfl, by rw [show catU U 0 = [] from rfl, upd_nil]; exact HS2, World.grownBy.refl _ _⟩
  case round =>
    obtain ⟨k, hk, rfl, HSr, HGr⟩ := hrel
    by_cases hkn : k < n
    · obtain ⟨h, rfl, hh, hcell⟩ := HROW.out (by omega)
      have hneP : h ≠ P := by rcases hh with hh | hh <;> omega
      have hx : wr.cell? ⟨h, k, none⟩ = some (V k) := HGr.out.cell (hcell k hkn) (by simp; omega)
      have hk0 : (0 : Int) ≤ (k : Int) := by omega
      have hk1 : (k : Int) < (n : Int) := by omega
      have HT := hid (tree_below (grown_below (below_grown (some P) HB2.out |> fun g => grown_trans g HGr.out) hPB (by omega)) (Nat.le_refl _) (HV.out k hkn))
      clear hcell
      go_wp2_with fail
      refine (HI.out _ (U k) _ _ HT.out HSr.out).mono ?_
      rintro e w3 ⟨rfl, hs3, hg3⟩
      have HS3 := hid hs3
      have HG3 := hid hg3
      clear hs3 hg3
      go_wp2_with fail
      go_roundw
      case rel => exact ⟨k + 1, by omega, by go_num, by rw [show catU U (k + 1) = catU U k ++ U k from rfl, upd_append]; exact HS3, grown_trans HGr.out HG3.out⟩
      case measure => simp [intOf]; omega
    · obtain rfl : n = k := by omega
      go_wp2_with fail
      go_end0
      exact ⟨rfl, HSr.out, grown_trans (below_grown (some P) HB2.out) HGr.out⟩

/-- THE CONTRACT OF 'Walk'. -/
theorem walk_any {A B P NM : Nat} {nm : ByteArray} : ∀ (d : Nat) (v : Value) (us : List Use) (w : World) (m : Option (Int × Int)), Tree w A B d v us → St w B P NM nm m →
    Calls Yba.prog 9 #[v, .func (.func 10) #[] #[.pointer (some ⟨P, 0, none⟩), .pointer (some ⟨NM, 0, none⟩)]] w fun e w' => e = .returned (.tuple #[]) ∧ St w' B P NM nm (upd nm m us) ∧ w.grownBy w' (some P)
  | 0, _, _, _, _, ht, hs => walk_leafy hs ht
  | d + 1, v, us, w, m, ht, hs => by
    rcases ht with ht | ht
    · exact walk_leafy hs ht
    · exact walk_node hs ht (walk_any d)
end Go.Proofs.Ybulkcgzg
