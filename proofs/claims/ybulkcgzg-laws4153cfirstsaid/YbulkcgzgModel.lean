/- THE CONTRACT OF 'zzs4153cmodel' (function 7). -/
import Derived.Test.YbulkcgzgBuildParts
import Derived.Test.YbulkcgzgFirst
namespace Go.Proofs.Ybulkcgzg
open Go.RowKit

/-- A statement as plain data, with the slice of its leaves. -/
structure StmtD where
  sh : Int
  a : Option Addr
  n : Nat
  c : Nat
  D : Nat → LeafD
def stmtU (s : StmtD) : List Use := catU (fun j => leafU (s.D j)) s.n

/-- The statements that came in: two cells each. -/
def StmtRow (w : World) (a : Option Addr) (n : Nat) (S : Nat → StmtD) : Prop :=
  (∀ i, i < n → 0 ≤ (S i).sh ∧ (S i).sh ≤ 255 ∧ LeafRow w (S i).a (S i).n (S i).D) ∧
  (0 < n → ∃ b o, a = some ⟨b, o, none⟩ ∧ b < w.heap.size ∧ ∀ i, i < n → w.cell? ⟨b, o + i * 2, none⟩ = some (.int .u8 (S i).sh) ∧ w.cell? ⟨b, o + i * 2 + 1, none⟩ = some (.slice (S i).a (S i).n (S i).c))

theorem leafrow_kept {w w' : World} {a : Option Addr} {n : Nat} {D : Nat → LeafD} (hb : Below w.heap.size w w') (h : LeafRow w a n D) : LeafRow w' a n D := by
  refine ⟨h.1, fun h0 => ?_⟩
  obtain ⟨b, o, ha, hlt, hc⟩ := h.2 h0
  refine ⟨b, o, ha, Nat.lt_of_lt_of_le hlt hb.size, fun j hj => ?_⟩
  have e := fun x => hb.cell (p := ⟨b, x, none⟩) hlt
  rw [e, e, e, e]; exact hc j hj
theorem stmtrow_kept {w w' : World} {a : Option Addr} {n : Nat} {S : Nat → StmtD} (hb : Below w.heap.size w w') (h : StmtRow w a n S) : StmtRow w' a n S := by
  refine ⟨fun i hi => ⟨(h.1 i hi).1, (h.1 i hi).2.1, leafrow_kept hb (h.1 i hi).2.2⟩, fun h0 => ?_⟩
  obtain ⟨b, o, ha, hlt, hc⟩ := h.2 h0
  refine ⟨b, o, ha, Nat.lt_of_lt_of_le hlt hb.size, fun j hj => ?_⟩
  have e := fun x => hb.cell (p := ⟨b, x, none⟩) hlt
  rw [e, e]; exact hc j hj

theorem use_yes {nm : ByteArray} {x : LeafD} (hk : x.kind % 4 = 0 ∨ x.kind % 4 = 1) (hn : ((nameB x.name).toList == nm.toList) = true) : findU nm (leafU x) = some (x.line, x.col) := by
  simp [leafU, useOf, hk, findU, hn]
theorem use_no {nm : ByteArray} {x : LeafD} (hk : x.kind % 4 = 0 ∨ x.kind % 4 = 1) (hn : ((nameB x.name).toList == nm.toList) = false) : findU nm (leafU x) = none := by
  simp [leafU, useOf, hk, findU, hn]
theorem use_none {nm : ByteArray} {x : LeafD} (h0 : ¬ x.kind % 4 = 0) (h1 : ¬ x.kind % 4 = 1) : findU nm (leafU x) = none := by
  simp [leafU, useOf, h0, h1, findU]

set_option maxHeartbeats 1000000 in
set_option maxRecDepth 100000 in
theorem model_any (a : Option Addr) (n c : Nat) (S : Nat → StmtD) (nm : ByteArray) (w : World) (hn : n ≤ 512) (hl : ∀ i, i < n → (S i).n ≤ 4096) (hr : StmtRow w a n S) :
    Calls Yba.prog 7 #[.slice a n c, .string nm] w fun e w' => e = .returned (.agg #[.int .i64 (posOf (findU nm (catU (fun i => stmtU (S i)) n))).1, .int .i64 (posOf (findU nm (catU (fun i => stmtU (S i)) n))).2]) ∧ Below w.heap.size w w' := by
  have hle : (n : Int) ≤ 512 := by omega
  have HR := hid hr
  have HL := hid hl
  clear hr hl
  go_enter Yba.func7, Yba.ntmps7
  go_wp2_with fail
  go_loopw [12] (fun i wr => ∃ k : Nat, k ≤ n ∧ i = .int .i64 k ∧ Hid (findU nm (catU (fun i => stmtU (S i)) k) = none) ∧ Hid (Below (w.heap.size + 1) (w.alloc (.cells #[.int .i64 0, .int .i64 0] 33)) wr)) (fun i _ => n - (intOf i).toNat)
  case atStart => exact ⟨0, by omega, rfl, rfl, Below.refl _ _⟩
  case round =>
    obtain ⟨k, hk, rfl, HF, HBr⟩ := hrel
    have hsz : w.heap.size + 1 ≤ wr.heap.size := by have := HBr.out.size; simpa using this
    have hr0 : wr.cell? ⟨w.heap.size, 0, none⟩ = some (.int .i64 0) := by
      rw [HBr.out.cell (p := ⟨w.heap.size, 0, none⟩) (by show w.heap.size < _; omega)]; simp
    have hr1 : wr.cell? ⟨w.heap.size, 1, none⟩ = some (.int .i64 0) := by
      rw [HBr.out.cell (p := ⟨w.heap.size, 1, none⟩) (by show w.heap.size < _; omega)]; simp
    have hf0 : wr.frozen? ⟨w.heap.size, 0, none⟩ = false := by
      rw [HBr.out.frozen (p := ⟨w.heap.size, 0, none⟩) (by show w.heap.size < _; omega)]; exact frozen_new _ _ _ _ _ rfl
    have hf1 : wr.frozen? ⟨w.heap.size, 1, none⟩ = false := by
      rw [HBr.out.frozen (p := ⟨w.heap.size, 1, none⟩) (by show w.heap.size < _; omega)]; exact frozen_new _ _ _ _ _ rfl
    have HBw : Hid (Below w.heap.size w wr) := ((Below.refl _ w).alloc (Nat.le_refl _) _).trans (HBr.out.mono (by omega))
    by_cases hkn : k < n
    · have hlk := HL.out k hkn
      obtain ⟨b, o, rfl, hb, hc⟩ := HR.out.2 (by omega)
      obtain ⟨y0, y1⟩ := hc k hkn
      have e0 := (HBw.out.cell (p := ⟨b, o + k * 2, none⟩) hb).trans y0
      have e1 := (HBw.out.cell (p := ⟨b, o + k * 2 + 1, none⟩) hb).trans y1
      have hLR := (HR.out.1 k hkn).2.2
      have HSU : Hid (stmtU (S k) = catU (fun j => leafU ((S k).D j)) (S k).n) := rfl
      have hk0 : (0 : Int) ≤ (k : Int) := by omega
      have hk1 : (k : Int) < (n : Int) := by omega
      clear y0 y1 hc
      obtain ⟨sk, hsk⟩ : ∃ sk, sk = S k := ⟨_, rfl⟩
      rw [← hsk] at hlk e0 e1 hLR HSU
      obtain ⟨sh2, a2, n2, c2, D2⟩ := sk
      dsimp only at hlk e0 e1 hLR HSU
      have HSU2 : Hid (stmtU (S k) = catU (fun j => leafU (D2 j)) n2) := by rw [← hsk]; exact HSU
      have HLR := hid hLR
      have hlki : (n2 : Int) ≤ 4096 := by omega
      clear hsk hLR HSU
      go_wp2_with fail
      rename World => wx
      have HB0 : Hid (Below wx.heap.size wx (wx.alloc (.cells #[.int .u8 sh2, .slice a2 n2 c2] 25))) := (Below.refl _ wx).alloc (Nat.le_refl _) _
      go_loopw [19] (fun i wr => ∃ j : Nat, j ≤ n2 ∧ i = .int .i64 j ∧ Hid (findU nm (catU (fun j => leafU (D2 j)) j) = none) ∧ Hid (Below wx.heap.size wx wr)) (fun i _ => n2 - (intOf i).toNat)
      case atStart => exact ⟨0, by omega, rfl, rfl, HB0⟩
      case round =>
        obtain ⟨j, hj, rfl, HFj, HBj⟩ := hrel
        have hsj := HBj.out.size
        have g0 := (HBj.out.cell (p := ⟨w.heap.size, 0, none⟩) (by show w.heap.size < _; omega)).trans hr0
        have g1 := (HBj.out.cell (p := ⟨w.heap.size, 1, none⟩) (by show w.heap.size < _; omega)).trans hr1
        have p0 := (HBj.out.frozen (p := ⟨w.heap.size, 0, none⟩) (by show w.heap.size < _; omega)).trans hf0
        have p1 := (HBj.out.frozen (p := ⟨w.heap.size, 1, none⟩) (by show w.heap.size < _; omega)).trans hf1
        have hwj : w.heap.size < wr.heap.size := by omega
        by_cases hjn : j < n2
        · obtain ⟨b2, o2, rfl, hb2, hc2⟩ := HLR.out.2 (by omega)
          obtain ⟨y0, y1, y2, y3⟩ := hc2 j hjn
          have HBwj : Hid (Below w.heap.size w wr) := HBw.out.trans (HBj.out.mono (by omega))
          have x0 := (HBwj.out.cell (p := ⟨b2, o2 + j * 4, none⟩) hb2).trans y0
          have x1 := (HBwj.out.cell (p := ⟨b2, o2 + j * 4 + 1, none⟩) hb2).trans y1
          have x2 := (HBwj.out.cell (p := ⟨b2, o2 + j * 4 + 2, none⟩) hb2).trans y2
          have x3 := (HBwj.out.cell (p := ⟨b2, o2 + j * 4 + 3, none⟩) hb2).trans y3
          obtain ⟨d1, d2, d3, d4⟩ := HLR.out.1 j hjn
          have hj0 : (0 : Int) ≤ (j : Int) := by omega
          have hj1 : (j : Int) < (n2 : Int) := by omega
          obtain ⟨x, hx⟩ : ∃ x, x = D2 j := ⟨_, rfl⟩
          rw [← hx] at x0 x1 x2 x3 d1 d2 d3 d4
          have HX := hid hx
          clear y0 y1 y2 y3 hc2 hx
          by_cases k0 : x.kind % 4 = 0 ∨ x.kind % 4 = 1
          · have hbb : ((x.kind % 4 == 0) = true) ∨ ((x.kind % 4 == 0) = false ∧ (x.kind % 4 == 1) = true) := by
              rcases k0 with h | h
              · exact .inl (by simp [h])
              · exact .inr (by simp [h])
            have HK0 := hid k0
            clear k0
            cases hnm : ((nameB x.name).toList == nm.toList) with
            | true =>
              have HFU := hid (found_at (U := fun j => leafU (D2 j)) HFj.out (by show findU nm (leafU (D2 j)) = _; rw [← HX.out]; exact use_yes HK0.out hnm) n2 hjn)
              have HFIN := hid (found_at (U := fun i => stmtU (S i)) HF.out (by show findU nm (stmtU (S k)) = _; rw [HSU2.out]; exact HFU.out) n hkn)
              rcases hbb with hbb | ⟨hbb, hbb1⟩
              all_goals
                go_wp2_with (go_at_call 4; refine (name_any _ _ (by assumption) (by assumption)).mono ?_; rintro e w9 ⟨rfl, rfl⟩)
                obtain ⟨t0, t1⟩ := two_set (.int .i64 x.line) (.int .i64 x.col) g0 g1
                have hsz2 : ((wr.setCell ⟨w.heap.size, 0, none⟩ (.int .i64 x.line)).setCell ⟨w.heap.size, 1, none⟩ (.int .i64 x.col)).heap.size = wr.heap.size := by simp [World.setCell]
                have t2 := fun o => (World.cell?_alloc_past (w := (wr.setCell ⟨w.heap.size, 0, none⟩ (.int .i64 x.line)).setCell ⟨w.heap.size, 1, none⟩ (.int .i64 x.col)) o w.heap.size 0 (by rw [hsz2]; exact hwj)).trans t0
                have t3 := fun o => (World.cell?_alloc_past (w := (wr.setCell ⟨w.heap.size, 0, none⟩ (.int .i64 x.line)).setCell ⟨w.heap.size, 1, none⟩ (.int .i64 x.col)) o w.heap.size 1 (by rw [hsz2]; exact hwj)).trans t1
                exact bodyPost_ret (v := .agg #[.int .i64 x.line, .int .i64 x.col]) (by simp [results, Yba.results7, go_sem, t2, t3]) rfl
                  ⟨by rw [HFIN.out]; rfl, ((HBwj.out.setCell (by simp) _).setCell (by simp) _).alloc (by rw [hsz2]; omega) _⟩
            | false =>
              have HFU := hid (no_more (U := fun j => leafU (D2 j)) HFj.out (by show findU nm (leafU (D2 j)) = _; rw [← HX.out]; exact use_no HK0.out hnm))
              rcases hbb with hbb | ⟨hbb, hbb1⟩
              all_goals
                go_wp2_with (go_at_call 4; refine (name_any _ _ (by assumption) (by assumption)).mono ?_; rintro e w9 ⟨rfl, rfl⟩)
                go_roundw
                case rel => exact ⟨j + 1, by omega, by go_num, HFU, HBj.out.alloc hsj _⟩
                case measure => simp [intOf]; omega
          · have k1 : ¬ x.kind % 4 = 0 := fun h => k0 (.inl h)
            have k2 : ¬ x.kind % 4 = 1 := fun h => k0 (.inr h)
            have b0 : (x.kind % 4 == 0) = false := by simp [k1]
            have b1 : (x.kind % 4 == 1) = false := by simp [k2]
            have HFU := hid (no_more (U := fun j => leafU (D2 j)) HFj.out (by show findU nm (leafU (D2 j)) = _; rw [← HX.out]; exact use_none k1 k2))
            clear k0 k1 k2
            go_wp2_with fail
            go_roundw
            case rel => exact ⟨j + 1, by omega, by go_num, HFU, HBj.out.alloc hsj _⟩
            case measure => simp [intOf]; omega
        · obtain rfl : n2 = j := by omega
          have HFK := hid (no_more (U := fun i => stmtU (S i)) HF.out (by show findU nm (stmtU (S k)) = none; rw [HSU2.out]; exact HFj.out))
          go_wp2_with fail
          go_roundw
          case rel => exact ⟨k + 1, by omega, by go_num, HFK, HBr.out.trans (HBj.out.mono (by omega))⟩
          case measure => simp [intOf]; omega
    · obtain rfl : n = k := by omega
      go_wp2_with fail
      obtain ⟨t0, t1⟩ := two_set (.int .i64 0) (.int .i64 0) hr0 hr1
      exact bodyPost_ret (v := .agg #[.int .i64 0, .int .i64 0]) (by simp [results, Yba.results7, go_sem, t0, t1]) rfl
        ⟨by rw [HF.out]; rfl, (HBw.out.setCell (by simp) _).setCell (by simp) _⟩
end Go.Proofs.Ybulkcgzg
