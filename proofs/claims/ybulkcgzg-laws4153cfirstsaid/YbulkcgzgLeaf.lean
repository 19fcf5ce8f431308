/- THE CONTRACTS OF 'zzs4153cname' (function 4) AND 'zzs4153cleaf' (function 8). -/
import Derived.Test.YbulkcgzgTree
namespace Go.Proofs.Ybulkcgzg
open Go.RowKit

/-- The name that a byte picks. -/
def nameB (i : Int) : ByteArray := if i % 4 = 0 then ⟨#[101]⟩ else if i % 4 = 1 then ⟨#[120]⟩ else if i % 4 = 2 then ⟨#[117, 115, 101, 114]⟩ else ⟨#[]⟩

set_option maxHeartbeats 400000 in
set_option maxRecDepth 100000 in
theorem name_any (i : Int) (w : World) (h1 : 0 ≤ i) (h2 : i ≤ 255) : Calls Yba.prog 4 #[.int .u8 i] w fun e w' => e = .returned (.string (nameB i)) ∧ w' = w := by
  by_cases k0 : i % 4 = 0
  · have b0 : (i % 4 == 0) = true := by simp [k0]
    rw [show nameB i = ⟨#[101]⟩ by simp [nameB, k0]]
    clear k0
    go_enter Yba.func4, Yba.ntmps4
    go_wp2
    go_ret
    exact ⟨rfl, rfl⟩
  have b0 : (i % 4 == 0) = false := by simp [k0]
  by_cases k1 : i % 4 = 1
  · have b1 : (i % 4 == 1) = true := by simp [k1]
    rw [show nameB i = ⟨#[120]⟩ by simp [nameB, k1]]
    clear k0 k1
    go_enter Yba.func4, Yba.ntmps4
    go_wp2
    go_ret
    exact ⟨rfl, rfl⟩
  have b1 : (i % 4 == 1) = false := by simp [k1]
  by_cases k2 : i % 4 = 2
  · have b2 : (i % 4 == 2) = true := by simp [k2]
    rw [show nameB i = ⟨#[117, 115, 101, 114]⟩ by simp [nameB, k2]]
    clear k0 k1 k2
    go_enter Yba.func4, Yba.ntmps4
    go_wp2
    go_ret
    exact ⟨rfl, rfl⟩
  · have b2 : (i % 4 == 2) = false := by simp [k2]
    rw [show nameB i = ⟨#[]⟩ by simp [nameB, k0, k1, k2]]
    clear k0 k1 k2
    go_enter Yba.func4, Yba.ntmps4
    go_wp2
    go_ret
    exact ⟨rfl, rfl⟩

/-- The use that a leaf is, if it is one. -/
def useOf (k nm l c : Int) : List Use := if k % 4 = 0 ∨ k % 4 = 1 then [(nameB nm, l, c)] else []

set_option maxHeartbeats 400000 in
set_option maxRecDepth 100000 in
theorem leaf_any (k nm l c : Int) (w : World) (k1 : 0 ≤ k) (k2 : k ≤ 255) (n1 : 0 ≤ nm) (n2 : nm ≤ 255) :
    Calls Yba.prog 8 #[.agg #[.int .u8 k, .int .u8 nm, .int .i64 l, .int .i64 c]] w fun e w' => ∃ v, e = .returned v ∧ Leafy w' w.heap.size w'.heap.size v (useOf k nm l c) ∧ Below w.heap.size w w' := by
  by_cases k0 : k % 4 = 0
  · have b0 : (k % 4 == 0) = true := by simp [k0]
    rw [show useOf k nm l c = [(nameB nm, l, c)] by simp [useOf, k0]]
    clear k0
    go_enter Yba.func8, Yba.ntmps8
    go_wp2_with (go_at_call 4; refine (name_any nm _ n1 n2).mono ?_; rintro e w1 ⟨rfl, rfl⟩)
    go_ret
    refine ⟨_, rfl, .inl ⟨w.heap.size + 1 + 1 + 1, nameB nm, l, c, rfl, ⟨by omega, by simp⟩, ?_, ?_, ?_, rfl⟩, ?_⟩
    · rw [World.cell?_alloc_at _ _ _ _ (by simp)]; rfl
    · rw [World.cell?_alloc_at _ _ _ _ (by simp)]; rfl
    · rw [World.cell?_alloc_at _ _ _ _ (by simp)]; rfl
    · exact ((((Below.refl _ w).alloc (Nat.le_refl _) _).alloc (by simp) _).alloc (by simp; omega) _).alloc (by simp; omega) _
  have b0 : (k % 4 == 0) = false := by simp [k0]
  by_cases e1 : k % 4 = 1
  · have b1 : (k % 4 == 1) = true := by simp [e1]
    rw [show useOf k nm l c = [(nameB nm, l, c)] by simp [useOf, e1]]
    clear k0 e1
    go_enter Yba.func8, Yba.ntmps8
    go_wp2_with (go_at_call 4; refine (name_any nm _ n1 n2).mono ?_; rintro e w1 ⟨rfl, rfl⟩)
    go_ret
    refine ⟨_, rfl, .inr (.inl ⟨w.heap.size + 1 + 1, nameB nm, l, c, rfl, ⟨by omega, by simp⟩, ?_, ?_, ?_, rfl⟩), ?_⟩
    · rw [World.cell?_alloc_at _ _ _ _ (by simp)]; rfl
    · rw [World.cell?_alloc_at _ _ _ _ (by simp)]; rfl
    · rw [World.cell?_alloc_at _ _ _ _ (by simp)]; rfl
    · exact (((Below.refl _ w).alloc (Nat.le_refl _) _).alloc (by simp) _).alloc (by simp; omega) _
  have b1 : (k % 4 == 1) = false := by simp [e1]
  rw [show useOf k nm l c = [] by simp [useOf, k0, e1]]
  by_cases e2 : k % 4 = 2
  · have b2 : (k % 4 == 2) = true := by simp [e2]
    clear k0 e1 e2
    go_enter Yba.func8, Yba.ntmps8
    go_wp2_with (go_at_call 4; refine (name_any nm _ n1 n2).mono ?_; rintro e w1 ⟨rfl, rfl⟩)
    go_ret
    exact ⟨_, rfl, .inr (.inr ⟨79, _, .inl rfl, rfl, rfl⟩), (((Below.refl _ w).alloc (Nat.le_refl _) _).alloc (by simp) _).alloc (by simp; omega) _⟩
  · have b2 : (k % 4 == 2) = false := by simp [e2]
    clear k0 e1 e2
    go_enter Yba.func8, Yba.ntmps8
    go_wp2_with (go_at_call 4; refine (name_any nm _ n1 n2).mono ?_; rintro e w1 ⟨rfl, rfl⟩)
    go_ret
    exact ⟨_, rfl, .inr (.inr ⟨83, _, .inr rfl, rfl, rfl⟩), ((Below.refl _ w).alloc (Nat.le_refl _) _).alloc (by simp) _⟩
end Go.Proofs.Ybulkcgzg
