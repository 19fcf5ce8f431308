/- THE CONTRACT OF 'zzs4143abuild' (function 7): the list of counters, laid in a block of its own. -/
import Derived.Test.YbulkcgtwProg
import Derived.Test.YbulkcgtwPlain
import Derived.Deep.QuietTactic
import Derived.BigQuiet
namespace Go.Proofs.Ybulkcgtw
open Go.RowKit

theorem info39 : (Yba.prog.info? 39).map (fun i => (i.zero, i.size, i.bytes)) = some (some (.agg #[.int .i64 0, .int .u64 0]), 2, 16) := by kernel_rfl

/-- What is known of the deltas that came in. -/
def Deltas (w : World) (a : Option Addr) (n : Nat) (ds : List Int) : Prop :=
  (∀ j, 0 ≤ ds.getD j 0 ∧ ds.getD j 0 ≤ 255) ∧ (n = 0 ∨ ∃ b off, a = some ⟨b, off, none⟩ ∧ b < w.heap.size ∧ ∀ j, j < n → w.cell? ⟨b, off + j, none⟩ = some (.int .u8 (ds.getD j 0)))

set_option maxHeartbeats 400000 in
set_option maxRecDepth 100000 in
theorem build_pos (base : Int) (b off n c : Nat) (ds : List Int) (w : World) (hb1 : -2147483648 ≤ base) (hb2 : base ≤ 2147483647) (hn : n ≤ 1024) (hd : ∀ j, 0 ≤ ds.getD j 0 ∧ ds.getD j 0 ≤ 255) (hb : b < w.heap.size)
    (hc : ∀ j, j < n → w.cell? ⟨b, off + j, none⟩ = some (.int .u8 (ds.getD j 0))) :
    Calls Yba.prog 7 #[.int .i32 base, .slice (some ⟨b, off, none⟩) n c] w fun e w' => e = .returned (.slice (some ⟨w.heap.size, 0, none⟩) n n) ∧
      Counters w' w.heap.size n (fun i => acc base ds (i + 1)) (fun i => (i : Int) * 7 + 1) ∧ Below w.heap.size w w' ∧ w.heap.size < w'.heap.size := by
  obtain ⟨i0, hi, hz0, hz1, hz2⟩ := info_parts info39
  have hle : (n : Int) ≤ 1024 := by omega
  have HC := hid hc
  have HD := hid hd
  clear hc hd
  go_enter Yba.func7, Yba.ntmps7
  go_wp2_with (at_make; refine wpList_make_full _ rfl _ _ 24 rfl w.heap.size 39 i0 (.agg #[.int .i64 0, .int .u64 0]) 2 Yba.underlying24 hi hz0 hz1 _ _ _ _ n rfl rfl (by omega) (by omega) (by rw [hz2]; omega) (by unfold maxLen; omega) (Nat.le_refl _) ?_; intro w1 hown hgrow; have HG1 := hid (owns_block hown); have HB1 := (Below.refl w.heap.size w).grown hgrow (Nat.le_refl _) (by simp); clear hown hgrow)
  have hN1 : w.heap.size < w1.heap.size := lt_of_block HG1.out
  go_loopw [6, 16] (fun t i wr => ∃ m : Nat, m ≤ n ∧ i = .int .i64 m ∧ t = .int .i64 (acc base ds m) ∧ Hid (Room wr w.heap.size (n * 2)) ∧ Hid (Counters wr w.heap.size m (fun i => acc base ds (i + 1)) (fun i => (i : Int) * 7 + 1)) ∧ Below w.heap.size w wr ∧ w.heap.size < wr.heap.size) (fun _ i _ => n - (intOf i).toNat)
  case atStart => exact ⟨0, by omega, rfl, rfl, room_of_block HG1.out (by simp [size_madeCells]), fun j hj => absurd hj (by omega), HB1, hN1⟩
  case round =>
    obtain ⟨m, hm, rfl, rfl, HR, HK, hBr, hNr⟩ := hrel
    clear HG1 HB1
    by_cases hlt : m < n
    · have hx := (hBr.cell (p := ⟨b, off + m, none⟩) hb).trans (HC.out m hlt)
      have hm0 : (0 : Int) ≤ (m : Int) := by omega
      have hm1 : (m : Int) < (n : Int) := by omega
      obtain ⟨⟨v0, e0⟩, f0⟩ := HR.out (m * 2) (by omega)
      obtain ⟨⟨v1, e1⟩, f1⟩ := HR.out (m * 2 + 1) (by omega)
      have hal := acc_le base ds m
      obtain ⟨hal1, hal2⟩ := hal
      obtain ⟨d, hdd⟩ : ∃ d, d = ds.getD m 0 := ⟨_, rfl⟩
      have hdb := HD.out m
      have hacc : acc base ds (m + 1) = acc base ds m + d % 4 := by rw [hdd]; rfl
      rw [← hdd] at hx hdb
      obtain ⟨hd1, hd2⟩ := hdb
      obtain ⟨A, hA⟩ : ∃ A, A = acc base ds m := ⟨_, rfl⟩
      rw [← hA] at hal1 hal2 hacc ⊢
      have HA := hid hacc
      clear hacc hdd hA
      go_wp2
      go_roundw
      case rel => exact ⟨m + 1, by omega, by go_num, by rw [HA.out], room_set (room_set HR), counters_set HA.out.symm rfl e0 e1 HK, (hBr.setCell (Nat.le_refl _) _).setCell (Nat.le_refl _) _, by simpa [World.setCell] using hNr⟩
      case measure => simp [intOf]; omega
    · obtain rfl : n = m := by omega
      go_wp2
      go_ret
      exact ⟨rfl, HK, hBr, hNr⟩

set_option maxHeartbeats 400000 in
set_option maxRecDepth 100000 in
theorem build_zero (base : Int) (a : Option Addr) (c : Nat) (w : World) (hb1 : -2147483648 ≤ base) (hb2 : base ≤ 2147483647) :
    Calls Yba.prog 7 #[.int .i32 base, .slice a 0 c] w fun e w' => e = .returned (.slice (some ⟨w.heap.size, 0, none⟩) 0 0) ∧ Below w.heap.size w w' ∧ w.heap.size < w'.heap.size := by
  obtain ⟨i0, hi, hz0, hz1, hz2⟩ := info_parts info39
  go_enter Yba.func7, Yba.ntmps7
  go_wp2_with (at_make; refine wpList_make_full _ rfl _ _ 24 rfl w.heap.size 39 i0 (.agg #[.int .i64 0, .int .u64 0]) 2 Yba.underlying24 hi hz0 hz1 _ _ _ _ 0 rfl rfl (by omega) (by omega) (by rw [hz2]; omega) (by unfold maxLen; omega) (Nat.le_refl _) ?_; intro w1 hown hgrow; have HG1 := hid (owns_block hown); have HB1 := (Below.refl w.heap.size w).grown hgrow (Nat.le_refl _) (by simp); clear hown hgrow)
  have hN1 : w.heap.size < w1.heap.size := lt_of_block HG1.out
  go_loopw [6, 16] (fun t i wr => i = .int .i64 0 ∧ t = .int .i64 base ∧ Below w.heap.size w wr ∧ w.heap.size < wr.heap.size) (fun _ i _ => 0)
  case atStart => exact ⟨rfl, rfl, HB1, hN1⟩
  case round =>
    obtain ⟨rfl, rfl, hBr, hNr⟩ := hrel
    go_wp2
    go_ret
    exact ⟨rfl, hBr, hNr⟩

/-- Both in one. -/
theorem build_any (base : Int) (a : Option Addr) (n c : Nat) (ds : List Int) (w : World) (hb1 : -2147483648 ≤ base) (hb2 : base ≤ 2147483647) (hn : n ≤ 1024) (hd : Deltas w a n ds) :
    Calls Yba.prog 7 #[.int .i32 base, .slice a n c] w fun e w' => e = .returned (.slice (some ⟨w.heap.size, 0, none⟩) n n) ∧
      Counters w' w.heap.size n (fun i => acc base ds (i + 1)) (fun i => (i : Int) * 7 + 1) ∧ Below w.heap.size w w' ∧ w.heap.size < w'.heap.size := by
  obtain ⟨hd1, rfl | ⟨b, off, rfl, hb, hc⟩⟩ := hd
  · refine (build_zero base a c w hb1 hb2).mono ?_
    rintro e w' ⟨h1, h2, h3⟩
    exact ⟨h1, fun j hj => absurd hj (by omega), h2, h3⟩
  · exact build_pos base b off n c ds w hb1 hb2 hn hd1 hb hc
end Go.Proofs.Ybulkcgtw
