/- THE CONTRACT OF '(threadClock).raisedAbove' (function 10), AND THE WALK OF 'LawS4143ARaised' (function 4). -/
import Derived.Test.YbulkcgtwIndex
namespace Go.Proofs.Ybulkcgtw
open Go.RowKit

/-- What raisedAbove hands back: the counter of the first index, else 'under'. -/
def above (C : Nat → Int) (under r : Int) : Int := if 0 ≤ r then C r.toNat else under

set_option maxHeartbeats 400000 in
set_option maxRecDepth 100000 in
theorem raised_any (g n c : Nat) (T C : Nat → Int) (q under : Int) (w : World) (hn : n ≤ 1024) (hg : g < w.heap.size) (hk : Counters w g n T C) (hmono : ∀ i j, i ≤ j → T i ≤ T j) :
    Calls Yba.prog 10 #[.agg #[.pointer none, .pointer none, .int .i64 0, .pointer none, .int .i64 0, .slice (some ⟨g, 0, none⟩) n c], .int .i64 q, .int .u64 under] w fun e w' =>
      ∃ r, e = .returned (.int .u64 (above C under r)) ∧ IsFirst T n q r ∧ Below w.heap.size w w' := by
  have HK := hid hk
  have HM := hid hmono
  clear hk hmono
  go_enter Yba.func10, Yba.ntmps10
  go_wp2_with fail
  refine (index_any g n c T C q _ hn ?_ HM.out).mono ?_
  · intro i hi
    have := HK.out i hi
    rw [World.cell?_alloc_past _ _ _ hg, World.cell?_alloc_past _ _ _ hg]; exact this
  rintro e w2 ⟨r, rfl, hr, hB2⟩
  have HR := hid hr
  have hc5 := hB2.cell (p := ⟨w.heap.size, 5, none⟩) (by simp)
  simp at hc5
  have HB2 : Hid (Below w.heap.size w w2) := ((Below.refl _ w).alloc (Nat.le_refl _) _).trans (hB2.mono (by simp))
  have HK2 : Hid (Counters w2 g n T C) := fun i hi => by
    have := HK.out i hi
    have e := fun o => hB2.cell (p := ⟨g, o, none⟩) (by simp; omega)
    rw [e, e, World.cell?_alloc_past _ _ _ hg, World.cell?_alloc_past _ _ _ hg]; exact this
  clear hr hB2 HK
  by_cases h0 : 0 ≤ r
  · obtain ⟨i, hi, hri⟩ : ∃ i : Nat, i < n ∧ r = i := by
      rcases HR.out with ⟨i, hi, e, _⟩ | ⟨e, _⟩
      · exact ⟨i, hi, e⟩
      · omega
    subst hri
    have hx := (HK2.out i hi).2
    have hi1 : (i : Int) < (n : Int) := by omega
    go_wp2
    go_ret
    exact ⟨i, ret_int (by simp [above]), HR.out, HB2.out⟩
  · have h0' : r < 0 := by omega
    go_wp2
    go_ret
    exact ⟨r, ret_int (by unfold above; rw [if_neg (by omega)]), HR.out, HB2.out⟩

set_option maxRecDepth 100000 in
theorem raisedL (a0 : Int) (a1 : Option Addr) (len1 cap1 : Nat) (a2 a3 : Int) (w : World) (h : 1024 < len1) :
    Calls Yba.prog 4 #[.int .i32 a0, .slice a1 len1 cap1, .int .i16 a2, .int .u64 a3] w fun e w' => e = .returned (.bool true) ∧ Below w.heap.size w w' := by
  have hl' : (1024 : Int) < (len1 : Int) := by omega
  go_enter Yba.func4, Yba.ntmps4
  go_wp2
  go_ret
  exact ⟨rfl, Below.refl _ _⟩

set_option maxHeartbeats 1000000 in
set_option maxRecDepth 100000 in
theorem raisedS (a0 : Int) (a1 : Option Addr) (len1 cap1 : Nat) (ds : List Int) (a2 a3 : Int) (w : World) (hl : len1 ≤ 1024) (hb1 : -2147483648 ≤ a0) (hb2 : a0 ≤ 2147483647) (hq1 : -32768 ≤ a2) (hq2 : a2 ≤ 32767) (hd : Deltas w a1 len1 ds) :
    Calls Yba.prog 4 #[.int .i32 a0, .slice a1 len1 cap1, .int .i16 a2, .int .u64 a3] w fun e w' => e = .returned (.bool true) ∧ Below w.heap.size w w' := by
  have hl' : (len1 : Int) ≤ 1024 := by omega
  have HD := hid hd
  clear hd
  go_enter Yba.func4, Yba.ntmps4
  go_wp2_with fail
  refine (build_any a0 a1 len1 cap1 ds _ hb1 hb2 hl HD.out).mono ?_
  rintro e w1 ⟨rfl, hK, hB1, hN1⟩
  have HK := hid hK
  clear hK
  go_wp2_with fail
  refine (raised_any w.heap.size len1 len1 (fun i => acc a0 ds (i + 1)) (fun i => (i : Int) * 7 + 1) (a0 + a2) a3 _ hl (by simp; omega) ?_ (fun i j hij => acc_le_acc a0 ds (by omega))).mono ?_
  · intro i hi
    have := HK.out i hi
    rw [World.cell?_alloc_past _ _ _ hN1, World.cell?_alloc_past _ _ _ hN1]; exact this
  rintro e w2 ⟨r, rfl, hr, hB2⟩
  have HR := hid hr
  have HB2 : Hid (Below w.heap.size w w2) := (hB1.alloc (by omega) _).trans (hB2.mono (by simp; omega))
  have HK2 : Hid (Counters w2 w.heap.size len1 (fun i => acc a0 ds (i + 1)) (fun i => (i : Int) * 7 + 1)) := fun i hi => by
    have := HK.out i hi
    have e := fun o => hB2.cell (p := ⟨w.heap.size, o, none⟩) (by simp; omega)
    rw [e, e, World.cell?_alloc_past _ _ _ hN1, World.cell?_alloc_past _ _ _ hN1]; exact this
  clear hr hB1 hB2 HK
  go_wp2_with fail
  refine (first_any w.heap.size len1 len1 (fun i => acc a0 ds (i + 1)) (fun i => (i : Int) * 7 + 1) (a0 + a2) _ hl HK2.out).mono ?_
  rintro e w3 ⟨s, rfl, hs, rfl⟩
  obtain rfl := first_one HR.out hs
  clear hs
  by_cases h0 : 0 ≤ r
  · obtain ⟨i, hi, hri⟩ : ∃ i : Nat, i < len1 ∧ r = i := by
      rcases HR.out with ⟨i, hi, e, _⟩ | ⟨e, _⟩
      · exact ⟨i, hi, e⟩
      · omega
    subst hri
    have hx := (HK2.out i hi).2
    have hi1 : (i : Int) < (len1 : Int) := by omega
    have hab : above (fun i => (i : Int) * 7 + 1) a3 (i : Int) = (i : Int) * 7 + 1 := by simp [above]
    go_wp2
    go_loop [15, 53] (fun t i => ∃ m : Nat, m ≤ len1 ∧ i = .int .i64 m ∧ t = .int .i64 (acc a0 ds m)) (fun _ i => len1 - (intOf i).toNat)
    case atStart => exact ⟨0, by omega, rfl, rfl⟩
    case round =>
      obtain ⟨m, hm, rfl, rfl⟩ := hrel
      by_cases hlt : m < len1
      · obtain ⟨hd1, hd0 | ⟨b, off, rfl, hb, hc⟩⟩ := HD.out
        · omega
        obtain ⟨d, hdd⟩ : ∃ d, d = ds.getD m 0 := ⟨_, rfl⟩
        have hxd := (HB2.out.cell (p := ⟨b, off + m, none⟩) hb).trans (hc m hlt)
        have hdb := hd1 m
        have hacc : acc a0 ds (m + 1) = acc a0 ds m + d % 4 := by rw [hdd]; rfl
        have hthr := (HK2.out m hlt).1
        have hcnt := (HK2.out m hlt).2
        have hal := acc_le a0 ds m
        obtain ⟨A, hA⟩ : ∃ A, A = acc a0 ds m := ⟨_, rfl⟩
        simp only [hacc] at hthr
        rw [← hdd] at hxd hdb
        rw [← hA] at hal hacc hthr ⊢
        obtain ⟨hal1, hal2⟩ := hal
        obtain ⟨hdb1, hdb2⟩ := hdb
        have HA := hid hacc
        have hm0 : (0 : Int) ≤ (m : Int) := by omega
        have hm1 : (m : Int) < (len1 : Int) := by omega
        clear hacc hdd hA hd1 hc
        go_wp2
        go_round
        case rel => exact ⟨m + 1, by omega, by go_num, by rw [HA.out]⟩
        case measure => simp [intOf]; omega
      · go_wp2
        go_ret
        exact ⟨rfl, HB2.out⟩
  · have hab : above (fun i => (i : Int) * 7 + 1) a3 r = a3 := by unfold above; rw [if_neg h0]
    have h0' : r < 0 := by omega
    go_wp2
    go_loop [15, 53] (fun t i => ∃ m : Nat, m ≤ len1 ∧ i = .int .i64 m ∧ t = .int .i64 (acc a0 ds m)) (fun _ i => len1 - (intOf i).toNat)
    case atStart => exact ⟨0, by omega, rfl, rfl⟩
    case round =>
      obtain ⟨m, hm, rfl, rfl⟩ := hrel
      by_cases hlt : m < len1
      · obtain ⟨hd1, hd0 | ⟨b, off, rfl, hb, hc⟩⟩ := HD.out
        · omega
        obtain ⟨d, hdd⟩ : ∃ d, d = ds.getD m 0 := ⟨_, rfl⟩
        have hxd := (HB2.out.cell (p := ⟨b, off + m, none⟩) hb).trans (hc m hlt)
        have hdb := hd1 m
        have hacc : acc a0 ds (m + 1) = acc a0 ds m + d % 4 := by rw [hdd]; rfl
        have hthr := (HK2.out m hlt).1
        have hcnt := (HK2.out m hlt).2
        have hal := acc_le a0 ds m
        obtain ⟨A, hA⟩ : ∃ A, A = acc a0 ds m := ⟨_, rfl⟩
        simp only [hacc] at hthr
        rw [← hdd] at hxd hdb
        rw [← hA] at hal hacc hthr ⊢
        obtain ⟨hal1, hal2⟩ := hal
        obtain ⟨hdb1, hdb2⟩ := hdb
        have HA := hid hacc
        have hm0 : (0 : Int) ≤ (m : Int) := by omega
        have hm1 : (m : Int) < (len1 : Int) := by omega
        clear hacc hdd hA hd1 hc
        go_wp2
        go_round
        case rel => exact ⟨m + 1, by omega, by go_num, by rw [HA.out]⟩
        case measure => simp [intOf]; omega
      · go_wp2
        go_ret
        exact ⟨rfl, HB2.out⟩
end Go.Proofs.Ybulkcgtw
