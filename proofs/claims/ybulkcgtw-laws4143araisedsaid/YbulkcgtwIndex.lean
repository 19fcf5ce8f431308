/- THE CONTRACTS OF '(threadClock).addedIndex' (function 8) AND 'zzs4143afirst' (function 9). -/
import Derived.Test.YbulkcgtwBuild
namespace Go.Proofs.Ybulkcgtw
open Go.RowKit

set_option maxHeartbeats 400000 in
set_option maxRecDepth 100000 in
theorem first_any (g n c : Nat) (T C : Nat → Int) (q : Int) (w : World) (hn : n ≤ 1024) (hk : Counters w g n T C) :
    Calls Yba.prog 9 #[.slice (some ⟨g, 0, none⟩) n c, .int .i64 q] w fun e w' => ∃ r, e = .returned (.int .i64 r) ∧ IsFirst T n q r ∧ w' = w := by
  have hle : (n : Int) ≤ 1024 := by omega
  have HK := hid hk
  clear hk
  go_enter Yba.func9, Yba.ntmps9
  go_wp2
  go_loop [5] (fun i => ∃ m : Nat, m ≤ n ∧ i = .int .i64 m ∧ Hid (∀ j, j < m → T j ≠ q)) (fun i => n - (intOf i).toNat)
  case atStart => exact ⟨0, by omega, rfl, fun j hj => absurd hj (by omega)⟩
  case round =>
    obtain ⟨m, hm, rfl, HN⟩ := hrel
    by_cases hlt : m < n
    · have hx := (HK.out m hlt).1
      have hm0 : (0 : Int) ≤ (m : Int) := by omega
      have hm1 : (m : Int) < (n : Int) := by omega
      obtain ⟨t, ht⟩ : ∃ t, t = T m := ⟨_, rfl⟩
      rw [← ht] at hx
      have HT := hid ht
      clear ht
      by_cases hq : t = q
      · have hqb : (t == q) = true := by simp [hq]
        have HQ := hid hq
        clear hq
        go_wp2
        go_ret
        exact ⟨m, rfl, .inl ⟨m, hlt, rfl, by rw [← HT.out, HQ.out], HN⟩, rfl⟩
      · have hqb : (t == q) = false := by simp [hq]
        have HQ := hid hq
        clear hq
        go_wp2
        go_round
        case rel =>
          refine ⟨m + 1, by omega, by go_num, fun j hj => ?_⟩
          by_cases e : j = m
          · subst e; rw [← HT.out]; exact HQ.out
          · exact HN.out j (by omega)
        case measure => simp [intOf]; omega
    · obtain rfl : n = m := by omega
      go_wp2
      go_ret
      exact ⟨-1, rfl, .inr ⟨rfl, HN⟩, rfl⟩

set_option maxHeartbeats 400000 in
set_option maxRecDepth 100000 in
theorem index_any (g n c : Nat) (T C : Nat → Int) (q : Int) (w : World) (hn : n ≤ 1024) (hk : Counters w g n T C) (hmono : ∀ i j, i ≤ j → T i ≤ T j) :
    Calls Yba.prog 8 #[.agg #[.pointer none, .pointer none, .int .i64 0, .pointer none, .int .i64 0, .slice (some ⟨g, 0, none⟩) n c], .int .i64 q] w fun e w' => ∃ r, e = .returned (.int .i64 r) ∧ IsFirst T n q r ∧ Below w.heap.size w w' := by
  have hle : (n : Int) ≤ 1024 := by omega
  have HK := hid hk
  have HM := hid hmono
  clear hk hmono
  go_enter Yba.func8, Yba.ntmps8
  go_wp2
  go_quiet (fail)
  go_wp2
  go_loop [5, 6] (fun lo hi => ∃ l h : Nat, l ≤ h ∧ h ≤ n ∧ lo = .int .i64 l ∧ hi = .int .i64 h ∧ Hid (∀ j, j < l → T j < q) ∧ Hid (∀ j, h ≤ j → j < n → q ≤ T j)) (fun lo hi => (intOf hi).toNat - (intOf lo).toNat)
  case atStart => exact ⟨0, n, by omega, by omega, rfl, rfl, fun j hj => absurd hj (by omega), fun j h1 h2 => absurd h1 (by omega)⟩
  case round =>
    obtain ⟨l, h, hlh, hhn, rfl, rfl, HL, HH⟩ := hrel
    by_cases hlt : l < h
    · have hx := (HK.out ((l + h) / 2) (by omega)).1
      have hg : g < w.heap.size := by have := World.block_lt_of_cell? w _ hx; simpa using this
      have hli : (l : Int) < (h : Int) := by omega
      have hhi : (h : Int) ≤ (n : Int) := by omega
      by_cases ht : T ((l + h) / 2) < q
      · go_wp2
        go_round
        case rel =>
          refine ⟨(l + h) / 2 + 1, h, by omega, hhn, by go_num, rfl, fun j hj => ?_, HH⟩
          have := HM.out j ((l + h) / 2) (by omega); omega
        case measure => simp [intOf]; omega
      · go_wp2
        go_round
        case rel =>
          refine ⟨l, (l + h) / 2, by omega, by omega, rfl, by go_num, HL, fun j h1 h2 => ?_⟩
          have := HM.out ((l + h) / 2) j h1; omega
        case measure => simp [intOf]; omega
    · obtain rfl : l = h := by omega
      by_cases hln : l < n
      · have hx := (HK.out l hln).1
        have hg : g < w.heap.size := by have := World.block_lt_of_cell? w _ hx; simpa using this
        have hl0 : (0 : Int) ≤ (l : Int) := by omega
        have hl1 : (l : Int) < (n : Int) := by omega
        obtain ⟨t, ht⟩ : ∃ t, t = T l := ⟨_, rfl⟩
        rw [← ht] at hx
        have HT := hid ht
        clear ht
        by_cases hq : t = q
        · have hqb : (t == q) = true := by simp [hq]
          have HQ := hid hq
          clear hq
          go_wp2
          go_ret
          refine ⟨l, rfl, .inl ⟨l, hln, rfl, by rw [← HT.out, HQ.out], fun j hj => ?_⟩, below_drewN ((Below.refl _ w).alloc (Nat.le_refl _) _) _⟩
          have := HL.out j hj; omega
        · have hqb : (t == q) = false := by simp [hq]
          have HQ := hid hq
          clear hq
          go_wp2
          go_ret
          refine ⟨-1, rfl, .inr ⟨rfl, fun j hj => ?_⟩, below_drewN ((Below.refl _ w).alloc (Nat.le_refl _) _) _⟩
          by_cases e : j < l
          · have := HL.out j e; omega
          · have h1 := HM.out l j (by omega)
            have h2 := HH.out l (Nat.le_refl _) hln
            have h3 := HQ.out
            have h4 := HT.out
            omega
      · have hl1 : (n : Int) ≤ (l : Int) := by omega
        have hd : decide ((l : Int) < (n : Int)) = false := decide_eq_false (by omega)
        go_wp2
        go_ret
        refine ⟨-1, rfl, .inr ⟨rfl, fun j hj => ?_⟩, below_drewN ((Below.refl _ w).alloc (Nat.le_refl _) _) _⟩
        have := HL.out j (by omega); omega
end Go.Proofs.Ybulkcgtw
