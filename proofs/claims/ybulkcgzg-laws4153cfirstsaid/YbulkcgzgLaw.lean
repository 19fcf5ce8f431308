/- THE WALK OF 'LawS4153CFirst' (function 3). -/
import Derived.Test.YbulkcgzgLawParts
import Derived.Deep.RegionHeld3
import Derived.Deep.DrawnRows
namespace Go.Proofs.Ybulkcgzg
open Go.RowKit
attribute [local go_sem ↓] Go.wp_at_zero Go.wp_at_succ

set_option maxRecDepth 100000 in
theorem lawL (a : Option Addr) (n c : Nat) (pick : Int) (w : World) (hn : 512 < n) :
    Calls Yba.prog 3 #[.slice a n c, .int .u8 pick] w fun e w' => e = .returned (.bool true) ∧ Below w.heap.size w w' := by
  have hl' : (512 : Int) < (n : Int) := by omega
  go_enter Yba.func3, Yba.ntmps3
  go_wp2
  go_ret
  exact ⟨rfl, Below.refl _ _⟩

set_option maxHeartbeats 1000000 in
set_option maxRecDepth 100000 in
theorem lawA (a : Option Addr) (n c : Nat) (S : Nat → StmtD) (pick : Int) (w : World) (hn : n ≤ 512) (p1 : 0 ≤ pick) (p2 : pick ≤ 255) (hp : pick % 5 < 4) (hbig : ∀ i, i < n → (S i).n ≤ 140737488355328) (hr : StmtRow w a n S) :
    Calls Yba.prog 3 #[.slice a n c, .int .u8 pick] w fun e w' => e = .returned (.bool true) ∧ Below w.heap.size w w' := by
  obtain ⟨i29, hi, hz0, hz1, hz2⟩ := info_parts info29
  have hle : (n : Int) ≤ 512 := by omega
  have HR := hid hr
  have HBIG := hid hbig
  clear hr hbig
  go_enter Yba.func3, Yba.ntmps3
  go_wp2_with fail
  go_loopw [5, 19] (fun t i wr => ∃ k : Nat, k ≤ n ∧ i = .int .i64 k ∧ t = .int .i64 (tot S k : Nat) ∧ tot S k ≤ 4096 ∧ Hid (Below w.heap.size w wr)) (fun _ i _ => n - (intOf i).toNat)
  case atStart => exact ⟨0, by omega, rfl, rfl, by simp [tot], Below.refl _ _⟩
  case round =>
    obtain ⟨k, hk, rfl, rfl, htk, HBw⟩ := hrel
    have hsz := HBw.out.size
    by_cases hkn : k < n
    · obtain ⟨b, o, rfl, hb, hc⟩ := HR.out.2 (by omega)
      obtain ⟨y0, y1⟩ := hc k hkn
      have e0 := (HBw.out.cell (p := ⟨b, o + k * 2, none⟩) hb).trans y0
      have e1 := (HBw.out.cell (p := ⟨b, o + k * 2 + 1, none⟩) hb).trans y1
      have hbk := HBIG.out k hkn
      have htS : tot S (k + 1) = tot S k + (S k).n := rfl
      have hk0 : (0 : Int) ≤ (k : Int) := by omega
      have hk1 : (k : Int) < (n : Int) := by omega
      obtain ⟨T0, hT0⟩ : ∃ T0, T0 = tot S k := ⟨_, rfl⟩
      obtain ⟨sk, hsk⟩ : ∃ sk, sk = S k := ⟨_, rfl⟩
      rw [← hsk] at e0 e1 hbk htS
      rw [← hT0] at htk htS ⊢
      obtain ⟨sh2, a2, n2, c2, D2⟩ := sk
      dsimp only at e0 e1 hbk htS
      have HTS := hid htS
      clear y0 y1 hc htS hT0 hsk
      by_cases hbg : 4096 < T0 + n2
      · have hbgi : (4096 : Int) < (T0 : Int) + (n2 : Int) := by omega
        go_wp2_with fail
        go_ret
        exact ⟨rfl, HBw.out.alloc hsz _⟩
      · have hbgi : (T0 : Int) + (n2 : Int) ≤ 4096 := by omega
        go_wp2_with fail
        go_roundw
        case rel => exact ⟨k + 1, by omega, by go_num, by rw [HTS.out]; go_num, by rw [HTS.out]; omega, HBw.out.alloc hsz _⟩
        case measure => simp [intOf]; omega
    · obtain rfl : n = k := by omega
      have HL : Hid (∀ i, i < n → (S i).n ≤ 4096) := fun i hi => Nat.le_trans (one_le_tot S hi) htk
      rename World => wx
      go_wp2_with (first
        | (go_at_call 4; refine (name_any _ _ (by omega) (by omega)).mono ?_; rintro e w9 ⟨rfl, hw9⟩; obtain rfl := hw9.symm)
        | (at_make; refine wpList_make_own _ rfl _ _ 27 rfl wx.heap.size 29 i29 .nilIface 1 Yba.underlying27 hi hz0 hz1 _ _ _ n rfl rfl (by omega) (by rw [hz2]; omega) (by unfold maxLen; omega) (by simp) ?_; intro w1 hown hgrow; have HO1 := hid hown; have hNw1 := (hown.lt _ rfl).2; have HB1 := hid ((Below.refl wx.heap.size wx).grown hgrow (Nat.le_refl _) (by simp)); clear hown hgrow))
      go_loopw [9, 42] (fun es i wr => ∃ (k : Nat) (vs : List Value), k ≤ n ∧ i = .int .i64 k ∧ es = .slice (some ⟨wx.heap.size, 0, none⟩) k n ∧ Hid (wr.ownsRow wx.heap.size 29 1 (.slice (some ⟨wx.heap.size, 0, none⟩) k n) k vs) ∧ Hid (Ts wr (wx.heap.size + 1) k vs (fun j => stmtU (S j))) ∧ Hid (Below wx.heap.size wx wr) ∧ wx.heap.size < wr.heap.size) (fun _ i _ => n - (intOf i).toNat)
      case atStart => exact ⟨0, [], by omega, rfl, rfl, HO1, fun j hj => absurd hj (by omega), HB1, hNw1⟩
      case round =>
        obtain ⟨k, vs, hk', rfl, rfl, HO, HX, HBr, hNr⟩ := hrel
        clear HO1 HB1
        have HBwr : Hid (Below w.heap.size w wr) := HBw.out.trans (HBr.out.mono hsz)
        by_cases hkn2 : k < n
        · obtain ⟨b, o, rfl, hb, hc⟩ := HR.out.2 (by omega)
          obtain ⟨y0, y1⟩ := hc k hkn2
          have e0 := (HBwr.out.cell (p := ⟨b, o + k * 2, none⟩) hb).trans y0
          have e1 := (HBwr.out.cell (p := ⟨b, o + k * 2 + 1, none⟩) hb).trans y1
          have hk0 : (0 : Int) ≤ (k : Int) := by omega
          have hk1 : (k : Int) < (n : Int) := by omega
          obtain ⟨q1, q2, q3⟩ := HR.out.1 k hkn2
          have hl4 := HL.out k hkn2
          have HQ3 := hid q3
          clear y0 y1 hc q3
          go_wp2_with fail
          refine (build_any (S k).sh (S k).a (S k).n (S k).c (S k).D _ q1 q2 hl4 (leafrow_kept (HBwr.out.alloc HBwr.out.size _) HQ3.out)).mono ?_
          rintro e w2 ⟨v, d, rfl, hT, hB2⟩
          obtain ⟨tv, xv, rfl⟩ := tree_iface hT
          have HT : Hid (Tree w2 _ w2.heap.size d (.iface tv xv) (stmtU (S k))) := hT
          have HB2 := hid hB2
          have hs2 := hB2.size
          simp at hs2
          have HO2 := hid (own_kept (HO.out.alloc _) hB2)
          clear hT hB2
          go_wp2_with (at_builtin; refine wpList_append_fits _ rfl (.tmp 46) (.tmp 49) 27 rfl wx.heap.size 29 i29 1 Yba.underlying27 hi hz1 wx.heap.size k n vs rfl (HO2.out.alloc _) ⟨w2.heap.size, 0, none⟩ 1 1 [.iface tv xv] rfl (by simp) (one_new _ _ _) (iface_one _ _) (by omega) ?_; intro w4 hown4 hgrow4; have HO4 := hid hown4; have HG4 := hid hgrow4; clear hown4 hgrow4)
          have RS := hid (ts_step (U := fun j => stmtU (S j)) HBr.out hNr (by simpa using HO.out.1) HX.out HB2.out HT.out HG4.out)
          go_wp2_with fail
          go_roundw
          case rel => exact ⟨k + 1, _, by omega, by go_num, rfl, HO4, RS.out.1, RS.out.2.1, RS.out.2.2⟩
          case measure => simp [intOf]; omega
        · obtain rfl : n = k := by omega
          go_wp2_with fail
          have hB3 := (Below.refl _ wr).alloc (Nat.le_refl _) (.cells #[.string { data := #[114] }, .string { data := #[] }, .int .i64 0, .int .i64 0, .slice none 0 0, .slice (some ⟨wx.heap.size, 0, none⟩) n n, .slice none 0 0, .slice none 0 0, .pointer none, .slice none 0 0, .nilIface, .int .i64 0, .int .i64 0, .slice none 0 0] 41)
          refine (first_any (wx.heap.size + 1) wr.heap.size wx.heap.size n n (fun j => stmtU (S j)) (nameB (pick % 5)) _ hn (by simp; omega) (by rw [World.cell?_alloc_at _ _ _ _ rfl]; rfl) (ts_events HO.out HX.out hNr hB3)).mono ?_
          rintro e w5 ⟨rfl, hB5⟩
          have HBW5 : Hid (Below w.heap.size w w5) := (HBwr.out.trans (hB3.mono HBwr.out.size)).trans (hB5.mono (by have := HBwr.out.size; simp; omega))
          have hev5 := hB5.cell (p := ⟨wr.heap.size, 5, none⟩) (by simp)
          rw [World.cell?_alloc_at _ _ _ _ rfl] at hev5
          have hev5' : w5.cell? ⟨wr.heap.size, 5, none⟩ = some (.slice (some ⟨wx.heap.size, 0, none⟩) n n) := hev5
          have hs5 := hB5.size
          simp at hs5
          have hwr5 : wr.heap.size < w5.heap.size := by omega
          have KM : ∀ wq, Below w.heap.size w wq → Calls Yba.prog 7 #[.slice a n c, .string (nameB (pick % 5))] wq fun e w' => e = .returned (.agg #[.int .i64 (posOf (findU (nameB (pick % 5)) (catU (fun i => stmtU (S i)) n))).1, .int .i64 (posOf (findU (nameB (pick % 5)) (catU (fun i => stmtU (S i)) n))).2]) ∧ Below wq.heap.size wq w' := fun wq hq => model_any a n c S (nameB (pick % 5)) wq hn HL.out (stmtrow_kept hq HR.out)
          obtain ⟨L1, hL1⟩ : ∃ L1, L1 = (posOf (findU (nameB (pick % 5)) (catU (fun i => stmtU (S i)) n))).1 := ⟨_, rfl⟩
          obtain ⟨C1, hC1⟩ : ∃ C1, C1 = (posOf (findU (nameB (pick % 5)) (catU (fun i => stmtU (S i)) n))).2 := ⟨_, rfl⟩
          rw [← hL1, ← hC1]
          simp only [← hL1, ← hC1] at KM
          have HKM := hid KM
          have HBG : Hid (Below w.heap.size w (w5.alloc (.cells #[.int .i64 L1, .int .i64 C1] 33))) := HBW5.out.alloc (by have := HBW5.out.size; omega) _
          clear KM hL1 hC1 hB5 hB3 hev5 HO HX HR HBIG HL
          go_wp2_with fail
          go_region_held3 (fun w' => w'.cell? ⟨w5.heap.size, 0, none⟩ = some (.int .i64 L1) ∧ w'.cell? ⟨w5.heap.size, 1, none⟩ = some (.int .i64 C1)) (go_keep)
            (first | (go_at_call 7; refine (HKM.out _ (HBG.out.drew)).mono ?_; rintro e w6 ⟨rfl, HB6⟩; have q0 := HB6.cell (p := ⟨w5.heap.size, 0, none⟩) (by simp); have q1 := HB6.cell (p := ⟨w5.heap.size, 1, none⟩) (by simp); simp at q0 q1))
          have HB6' : Hid (Below w.heap.size w w6) := HBG.out.drew.trans (HB6.mono HBG.out.size)
          clear HB6
          go_wp2_with fail
          go_ret
          exact ⟨rfl, HB6'.out⟩

set_option maxHeartbeats 1000000 in
set_option maxRecDepth 100000 in
theorem lawB (a : Option Addr) (n c : Nat) (S : Nat → StmtD) (pick : Int) (w : World) (hn : n ≤ 512) (p1 : 0 ≤ pick) (p2 : pick ≤ 255) (hp : 4 ≤ pick % 5) (hbig : ∀ i, i < n → (S i).n ≤ 140737488355328) (hr : StmtRow w a n S) :
    Calls Yba.prog 3 #[.slice a n c, .int .u8 pick] w fun e w' => e = .returned (.bool true) ∧ Below w.heap.size w w' := by
  obtain ⟨i29, hi, hz0, hz1, hz2⟩ := info_parts info29
  have hle : (n : Int) ≤ 512 := by omega
  have HR := hid hr
  have HBIG := hid hbig
  clear hr hbig
  go_enter Yba.func3, Yba.ntmps3
  go_wp2_with fail
  go_loopw [5, 19] (fun t i wr => ∃ k : Nat, k ≤ n ∧ i = .int .i64 k ∧ t = .int .i64 (tot S k : Nat) ∧ tot S k ≤ 4096 ∧ Hid (Below w.heap.size w wr)) (fun _ i _ => n - (intOf i).toNat)
  case atStart => exact ⟨0, by omega, rfl, rfl, by simp [tot], Below.refl _ _⟩
  case round =>
    obtain ⟨k, hk, rfl, rfl, htk, HBw⟩ := hrel
    have hsz := HBw.out.size
    by_cases hkn : k < n
    · obtain ⟨b, o, rfl, hb, hc⟩ := HR.out.2 (by omega)
      obtain ⟨y0, y1⟩ := hc k hkn
      have e0 := (HBw.out.cell (p := ⟨b, o + k * 2, none⟩) hb).trans y0
      have e1 := (HBw.out.cell (p := ⟨b, o + k * 2 + 1, none⟩) hb).trans y1
      have hbk := HBIG.out k hkn
      have htS : tot S (k + 1) = tot S k + (S k).n := rfl
      have hk0 : (0 : Int) ≤ (k : Int) := by omega
      have hk1 : (k : Int) < (n : Int) := by omega
      obtain ⟨T0, hT0⟩ : ∃ T0, T0 = tot S k := ⟨_, rfl⟩
      obtain ⟨sk, hsk⟩ : ∃ sk, sk = S k := ⟨_, rfl⟩
      rw [← hsk] at e0 e1 hbk htS
      rw [← hT0] at htk htS ⊢
      obtain ⟨sh2, a2, n2, c2, D2⟩ := sk
      dsimp only at e0 e1 hbk htS
      have HTS := hid htS
      clear y0 y1 hc htS hT0 hsk
      by_cases hbg : 4096 < T0 + n2
      · have hbgi : (4096 : Int) < (T0 : Int) + (n2 : Int) := by omega
        go_wp2_with fail
        go_ret
        exact ⟨rfl, HBw.out.alloc hsz _⟩
      · have hbgi : (T0 : Int) + (n2 : Int) ≤ 4096 := by omega
        go_wp2_with fail
        go_roundw
        case rel => exact ⟨k + 1, by omega, by go_num, by rw [HTS.out]; go_num, by rw [HTS.out]; omega, HBw.out.alloc hsz _⟩
        case measure => simp [intOf]; omega
    · obtain rfl : n = k := by omega
      have HL : Hid (∀ i, i < n → (S i).n ≤ 4096) := fun i hi => Nat.le_trans (one_le_tot S hi) htk
      rename World => wx
      go_wp2_with (first
        | fail
        | (at_make; refine wpList_make_own _ rfl _ _ 27 rfl wx.heap.size 29 i29 .nilIface 1 Yba.underlying27 hi hz0 hz1 _ _ _ n rfl rfl (by omega) (by rw [hz2]; omega) (by unfold maxLen; omega) (by simp) ?_; intro w1 hown hgrow; have HO1 := hid hown; have hNw1 := (hown.lt _ rfl).2; have HB1 := hid ((Below.refl wx.heap.size wx).grown hgrow (Nat.le_refl _) (by simp)); clear hown hgrow))
      go_loopw [9, 42] (fun es i wr => ∃ (k : Nat) (vs : List Value), k ≤ n ∧ i = .int .i64 k ∧ es = .slice (some ⟨wx.heap.size, 0, none⟩) k n ∧ Hid (wr.ownsRow wx.heap.size 29 1 (.slice (some ⟨wx.heap.size, 0, none⟩) k n) k vs) ∧ Hid (Ts wr (wx.heap.size + 1) k vs (fun j => stmtU (S j))) ∧ Hid (Below wx.heap.size wx wr) ∧ wx.heap.size < wr.heap.size) (fun _ i _ => n - (intOf i).toNat)
      case atStart => exact ⟨0, [], by omega, rfl, rfl, HO1, fun j hj => absurd hj (by omega), HB1, hNw1⟩
      case round =>
        obtain ⟨k, vs, hk', rfl, rfl, HO, HX, HBr, hNr⟩ := hrel
        clear HO1 HB1
        have HBwr : Hid (Below w.heap.size w wr) := HBw.out.trans (HBr.out.mono hsz)
        by_cases hkn2 : k < n
        · obtain ⟨b, o, rfl, hb, hc⟩ := HR.out.2 (by omega)
          obtain ⟨y0, y1⟩ := hc k hkn2
          have e0 := (HBwr.out.cell (p := ⟨b, o + k * 2, none⟩) hb).trans y0
          have e1 := (HBwr.out.cell (p := ⟨b, o + k * 2 + 1, none⟩) hb).trans y1
          have hk0 : (0 : Int) ≤ (k : Int) := by omega
          have hk1 : (k : Int) < (n : Int) := by omega
          obtain ⟨q1, q2, q3⟩ := HR.out.1 k hkn2
          have hl4 := HL.out k hkn2
          have HQ3 := hid q3
          clear y0 y1 hc q3
          go_wp2_with fail
          refine (build_any (S k).sh (S k).a (S k).n (S k).c (S k).D _ q1 q2 hl4 (leafrow_kept (HBwr.out.alloc HBwr.out.size _) HQ3.out)).mono ?_
          rintro e w2 ⟨v, d, rfl, hT, hB2⟩
          obtain ⟨tv, xv, rfl⟩ := tree_iface hT
          have HT : Hid (Tree w2 _ w2.heap.size d (.iface tv xv) (stmtU (S k))) := hT
          have HB2 := hid hB2
          have hs2 := hB2.size
          simp at hs2
          have HO2 := hid (own_kept (HO.out.alloc _) hB2)
          clear hT hB2
          go_wp2_with (at_builtin; refine wpList_append_fits _ rfl (.tmp 46) (.tmp 49) 27 rfl wx.heap.size 29 i29 1 Yba.underlying27 hi hz1 wx.heap.size k n vs rfl (HO2.out.alloc _) ⟨w2.heap.size, 0, none⟩ 1 1 [.iface tv xv] rfl (by simp) (one_new _ _ _) (iface_one _ _) (by omega) ?_; intro w4 hown4 hgrow4; have HO4 := hid hown4; have HG4 := hid hgrow4; clear hown4 hgrow4)
          have RS := hid (ts_step (U := fun j => stmtU (S j)) HBr.out hNr (by simpa using HO.out.1) HX.out HB2.out HT.out HG4.out)
          go_wp2_with fail
          go_roundw
          case rel => exact ⟨k + 1, _, by omega, by go_num, rfl, HO4, RS.out.1, RS.out.2.1, RS.out.2.2⟩
          case measure => simp [intOf]; omega
        · obtain rfl : n = k := by omega
          go_wp2_with fail
          have hB3 := (Below.refl _ wr).alloc (Nat.le_refl _) (.cells #[.string { data := #[114] }, .string { data := #[] }, .int .i64 0, .int .i64 0, .slice none 0 0, .slice (some ⟨wx.heap.size, 0, none⟩) n n, .slice none 0 0, .slice none 0 0, .pointer none, .slice none 0 0, .nilIface, .int .i64 0, .int .i64 0, .slice none 0 0] 41)
          refine (first_any (wx.heap.size + 1) wr.heap.size wx.heap.size n n (fun j => stmtU (S j)) (⟨#[110, 111, 112, 101]⟩) _ hn (by simp; omega) (by rw [World.cell?_alloc_at _ _ _ _ rfl]; rfl) (ts_events HO.out HX.out hNr hB3)).mono ?_
          rintro e w5 ⟨rfl, hB5⟩
          have HBW5 : Hid (Below w.heap.size w w5) := (HBwr.out.trans (hB3.mono HBwr.out.size)).trans (hB5.mono (by have := HBwr.out.size; simp; omega))
          have hev5 := hB5.cell (p := ⟨wr.heap.size, 5, none⟩) (by simp)
          rw [World.cell?_alloc_at _ _ _ _ rfl] at hev5
          have hev5' : w5.cell? ⟨wr.heap.size, 5, none⟩ = some (.slice (some ⟨wx.heap.size, 0, none⟩) n n) := hev5
          have hs5 := hB5.size
          simp at hs5
          have hwr5 : wr.heap.size < w5.heap.size := by omega
          have KM : ∀ wq, Below w.heap.size w wq → Calls Yba.prog 7 #[.slice a n c, .string (⟨#[110, 111, 112, 101]⟩)] wq fun e w' => e = .returned (.agg #[.int .i64 (posOf (findU (⟨#[110, 111, 112, 101]⟩) (catU (fun i => stmtU (S i)) n))).1, .int .i64 (posOf (findU (⟨#[110, 111, 112, 101]⟩) (catU (fun i => stmtU (S i)) n))).2]) ∧ Below wq.heap.size wq w' := fun wq hq => model_any a n c S (⟨#[110, 111, 112, 101]⟩) wq hn HL.out (stmtrow_kept hq HR.out)
          obtain ⟨L1, hL1⟩ : ∃ L1, L1 = (posOf (findU (⟨#[110, 111, 112, 101]⟩) (catU (fun i => stmtU (S i)) n))).1 := ⟨_, rfl⟩
          obtain ⟨C1, hC1⟩ : ∃ C1, C1 = (posOf (findU (⟨#[110, 111, 112, 101]⟩) (catU (fun i => stmtU (S i)) n))).2 := ⟨_, rfl⟩
          rw [← hL1, ← hC1]
          simp only [← hL1, ← hC1] at KM
          have HKM := hid KM
          have HBG : Hid (Below w.heap.size w (w5.alloc (.cells #[.int .i64 L1, .int .i64 C1] 33))) := HBW5.out.alloc (by have := HBW5.out.size; omega) _
          clear KM hL1 hC1 hB5 hB3 hev5 HO HX HR HBIG HL
          go_wp2_with fail
          go_region_held3 (fun w' => w'.cell? ⟨w5.heap.size, 0, none⟩ = some (.int .i64 L1) ∧ w'.cell? ⟨w5.heap.size, 1, none⟩ = some (.int .i64 C1)) (go_keep)
            (first | (go_at_call 7; refine (HKM.out _ (HBG.out.drew)).mono ?_; rintro e w6 ⟨rfl, HB6⟩; have q0 := HB6.cell (p := ⟨w5.heap.size, 0, none⟩) (by simp); have q1 := HB6.cell (p := ⟨w5.heap.size, 1, none⟩) (by simp); simp at q0 q1))
          have HB6' : Hid (Below w.heap.size w w6) := HBG.out.drew.trans (HB6.mono HBG.out.size)
          clear HB6
          go_wp2_with fail
          go_ret
          exact ⟨rfl, HB6'.out⟩
end Go.Proofs.Ybulkcgzg
