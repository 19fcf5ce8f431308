/- THE WALK OF 'xcsp3.LawS4139CEnds' (function 6). -/
import Derived.Test.YbulkcgrsMagn
import Derived.Test.YbulkcgrsShelfA
import Derived.Test.YbulkcgrsCEndsParts
namespace Go.Proofs.Ybulkcgrs.CEnds
open Go.RowKit Go.Proofs.Ybulkcgrs.Kit

theorem info3 : (Yba.prog.info? 3).map (fun i => (i.zero, i.size, i.bytes)) = some (some (.int .i64 0), 1, 8) := by kernel_rfl
theorem size3 : (Yba.prog.info? 3).map (·.size) = some 1 := by kernel_rfl
theorem info65 : (Yba.prog.info? 65).map (fun i => (i.zero, i.size, i.bytes)) = some (some (.agg #[.string ByteArray.empty, .slice none 0 0]), 2, 40) := by kernel_rfl

/-- What is known of one domain that came in. -/
def DomIs (w : World) (v : Value) : Prop :=
  ∃ (A : Option Addr) (L C : Nat) (Z : List Int), v = .slice A L C ∧ Z.length = L ∧ (∀ n ∈ Z, -9223372036854775808 ≤ n ∧ n ≤ 9223372036854775807) ∧
    (0 < L → ∃ b o, A = some ⟨b, o, none⟩ ∧ b < w.heap.size ∧ ∀ c, c < L → w.cell? ⟨b, o + c, none⟩ = some (.int .i64 (Z.getD c 0)))
def lenOf : Value → Nat | .slice _ l _ => l | _ => 0

theorem getD_bound {zs : List Int} (h : ∀ n ∈ zs, -9223372036854775808 ≤ n ∧ n ≤ 9223372036854775807) (j : Nat) : -9223372036854775808 ≤ zs.getD j 0 ∧ zs.getD j 0 ≤ 9223372036854775807 := by
  by_cases hj : j < zs.length
  · have := h zs[j] (List.getElem_mem hj)
    simpa [List.getD, hj] using this
  · simp [List.getD, hj]

theorem hid {p : Prop} (h : p) : Hid p := h
theorem own_kept {w w' : World} {B e sz N n c : Nat} {xs : List Value} (h : w.ownsRow B e sz (.slice (some ⟨N, 0, none⟩) n c) n xs) (hb : Below w.heap.size w w') : w'.ownsRow B e sz (.slice (some ⟨N, 0, none⟩) n c) n xs :=
  h.kept (below_grownBy hb) (Or.inr (by simp [Value.ownBlock]))
theorem two_new (w : World) (x y : Value) (t : TypeId) : ∀ j u, [x, y][j]? = some u → (w.alloc (.cells #[x, y] t)).cell? ((⟨w.heap.size, 0, none⟩ : Addr).add j) = some u := by
  intro j u hu
  rw [Addr.add_lit, Nat.zero_add, World.cell?_alloc_new]
  simpa using hu
theorem two_new2 (w : World) (x y : Value) (t : TypeId) (o : Obj) : ∀ j u, [x, y][j]? = some u → ((w.alloc o).alloc (.cells #[x, y] t)).cell? ((⟨w.heap.size + 1, 0, none⟩ : Addr).add j) = some u := by
  have h := two_new (w.alloc o) x y t
  simpa using h
theorem pad_good {w : World} {N e : Nat} {pad : Int} (h : N < w.heap.size) (h1 : -9223372036854775808 ≤ pad) (h2 : pad ≤ 9223372036854775807) : GoodVar (w.alloc (.cells #[.int .i64 pad] e)) N (.slice (some ⟨w.heap.size, 0, none⟩) 1 1) := by
  refine ⟨w.heap.size, 1, [pad], rfl, h, by omega, by omega, rfl, by simp [h1, h2], fun c hc => ?_⟩
  obtain rfl : c = 0 := by omega
  simp
theorem two_one (s : ByteArray) (a : Option Addr) (n : Nat) : ∀ u ∈ [Value.string s, .slice a n n], u.oneCell' = true := by
  intro u hu
  simp at hu
  rcases hu with rfl | rfl <;> rfl

set_option maxHeartbeats 1000000 in
set_option maxRecDepth 100000 in
theorem walkP (b off len cap : Nat) (V : Nat → Value) (pad sel : Int) (w : World) (hl : len ≤ 1024) (h0 : 0 < len) (hp1 : -9223372036854775808 ≤ pad) (hp2 : pad ≤ 9223372036854775807) (hs1 : 0 ≤ sel) (hs2 : sel ≤ 65535)
    (hc : ∀ r, r < len → w.cell? ⟨b, off + r, none⟩ = some (V r)) (hd : ∀ r, r < len → DomIs w (V r)) :
    Calls Yba.prog 6 #[.slice (some ⟨b, off, none⟩) len cap, .int .i64 pad, .int .u16 sel] w fun e w' => e = .returned (.bool true) ∧ Below w.heap.size w w' := by
  obtain ⟨i3, hi3, hz30, hz31, hz32⟩ := info_parts info3
  obtain ⟨i65, hi65, hz650, hz651, hz652⟩ := info_parts info65
  have hb : b < w.heap.size := by have := World.block_lt_of_cell? w _ (hc 0 h0); simpa using this
  have hle : (len : Int) ≤ 1024 := by omega
  have HC : Hid (∀ r, r < len → w.cell? ⟨b, off + r, none⟩ = some (V r)) := hc
  have HD : Hid (∀ r, r < len → DomIs w (V r)) := hd
  clear hc hd
  go_enter Yba.func6, Yba.ntmps6
  go_wp2_with fail
  go_loop [25] (fun i => ∃ m : Nat, m ≤ len ∧ i = .int .i64 m ∧ Hid (∀ r, r < m → lenOf (V r) ≤ 1024)) (fun i => len - (intOf i).toNat)
  case atStart => exact ⟨0, by omega, rfl, fun r hr => absurd hr (by omega)⟩
  case round =>
    obtain ⟨m, hm, rfl, HL⟩ := hrel
    by_cases hlt : m < len
    · obtain ⟨A, L, C, Z, hv, hZ, _, _⟩ := HD.out m hlt
      have hx : w.cell? ⟨b, off + m, none⟩ = some (.slice A L C) := by rw [HC.out m hlt, hv]
      have HV : Hid (V m = .slice A L C) := hv
      clear hv hZ
      have hm0 : (0 : Int) ≤ (m : Int) := by omega
      have hm1 : (m : Int) < (len : Int) := by omega
      by_cases hL : 1024 < L
      · have hL' : (1024 : Int) < (L : Int) := by omega
        go_wp2
        go_ret
        exact ⟨rfl, Below.refl _ _⟩
      · have hL' : (L : Int) ≤ 1024 := by omega
        go_wp2
        go_round
        case rel =>
          refine ⟨m + 1, by omega, by go_num, fun r hr => ?_⟩
          by_cases e : r = m
          · subst e; rw [HV.out]; simp only [lenOf]; omega
          · exact HL.out r (by omega)
        case measure => simp [intOf]; omega
    · obtain rfl : len = m := by omega
      go_wp2_with (first
        | (at_make; refine wpList_make_own _ rfl _ _ 63 rfl w.heap.size 65 i65 (.agg #[.string ByteArray.empty, .slice none 0 0]) 2 Yba.underlying63 hi65 hz650 hz651 _ _ _ (len + 1) rfl rfl (by omega) (by rw [hz652]; omega) (by unfold maxLen; omega) (Nat.le_refl _) ?_; intro w1 hown hgrow; have HO1 : Hid (w1.ownsRow w.heap.size 65 2 (.slice (some ⟨w.heap.size, 0, none⟩) 0 (len + 1)) 0 []) := hown; have hNw1 : w.heap.size < w1.heap.size := (hown.lt _ rfl).2; have HB1 := (Below.refl w.heap.size w).grown hgrow (Nat.le_refl _) (by simp); clear hown hgrow))
      go_loopw [9, 39] (fun vs i wr => ∃ (k : Nat) (xs : List Value), k ≤ len ∧ i = .int .i64 k ∧ vs = .slice (some ⟨w.heap.size, 0, none⟩) k (len + 1) ∧ Hid (wr.ownsRow w.heap.size 65 2 (.slice (some ⟨w.heap.size, 0, none⟩) k (len + 1)) k xs) ∧ Hid (Vars wr w.heap.size k xs) ∧ Below w.heap.size w wr ∧ w.heap.size < wr.heap.size) (fun _ i _ => len - (intOf i).toNat)
      case atStart => exact ⟨0, [], by omega, rfl, rfl, HO1, fun j hj => absurd hj (by omega), HB1, hNw1⟩
      case round =>
        obtain ⟨k, xs, hk, rfl, rfl, HO, HV, hBr, hNr⟩ := hrel
        clear HO1 HB1
        by_cases hlt2 : k < len
        · have hk0 : (0 : Int) ≤ (k : Int) := by omega
          have hk1 : (k : Int) < (len : Int) := by omega
          obtain ⟨A, L, C, Z, hv, hZ, hZb, hZc⟩ := HD.out k hlt2
          have hx : wr.cell? ⟨b, off + k, none⟩ = some (.slice A L C) := by rw [hBr.cell (p := ⟨b, off + k, none⟩) hb, HC.out k hlt2, hv]
          have hLk : L ≤ 1024 := by have := HL.out k hlt2; rw [hv] at this; exact this
          have hLi : (L : Int) ≤ 1024 := by omega
          have HZb : Hid (∀ n ∈ Z, -9223372036854775808 ≤ n ∧ n ≤ 9223372036854775807) := hZb
          have HZl : Hid (Z.length = L) := hZ
          clear hv hZ hZb
          obtain ⟨R, hR⟩ : ∃ R, R = (madeCells (Value.int .i64 0).cells (L * 1)).toList := ⟨_, rfl⟩
          have HR : Hid (R = (madeCells (Value.int .i64 0).cells (L * 1)).toList) := hR
          clear hR
          by_cases hL0 : L = 0
          · subst hL0
            clear hZc
            go_wp2_with (first
              | (at_make; refine wpList_make_full _ rfl _ _ 22 rfl wr.heap.size 3 i3 (.int .i64 0) 1 Yba.underlying22 hi3 hz30 hz31 _ _ _ _ 0 rfl rfl (by omega) (by omega) (by rw [hz32]; omega) (by unfold maxLen; omega) (Nat.le_refl _) ?_; intro w2 hown hgrow; have HG2 : Hid (w2.heap[wr.heap.size]? = some (.cells R.toArray 3 (0, 0))) := (by rw [HR.out]; exact owns_block hown); have HB2 := (Below.refl wr.heap.size wr).grown hgrow (Nat.le_refl _) (by simp); clear hown hgrow)
              | (with_reducible (show wpList _ _ _ ({ dst := _, op := Op.call { callee := Callee.builtin Builtin.copy, args := _, argTypes := _ }, type := _, pos := _, after := _, guard := _ } :: _) _ _); (refine wpList_copy_splice (by rfl) (.tmp 46) (.tmp 47) 22 22 (by rfl) 3 Yba.underlying22 size3 (some ⟨wr.heap.size, 0, none⟩) A 0 0 0 C rfl rfl wr.heap.size 0 R 3 HG2.out [] (by simp) (by simp) (by simp) (by simp) wr.heap.size wr HB2 (Nat.le_refl _) ?_); intro w3 HG3 HB3; clear HG2 HB2; (have HO3 : Hid (w3.ownsRow w.heap.size 65 2 (.slice (some ⟨w.heap.size, 0, none⟩) k (len + 1)) k xs) := hid (own_kept HO.out HB3)))
              | (at_builtin; refine wpList_append_fits _ rfl (.tmp 54) (.tmp 57) 63 rfl w.heap.size 65 i65 2 Yba.underlying63 hi65 hz651 w.heap.size k (len + 1) xs rfl ((HO3.out.alloc _).alloc _) ⟨w3.heap.size + 1, 0, none⟩ 1 1 [.string ⟨#[]⟩, .slice (some ⟨w3.heap.size, 0, none⟩) 1 1] rfl (by simp) (two_new2 _ _ _ _ _) (two_one _ _ _) (by omega) ?_; intro w4 hown4 hgrow4; have HO4 : Hid (w4.ownsRow w.heap.size 65 2 (.slice (some ⟨w.heap.size, 0, none⟩) (k + 1) (len + 1)) (k + 1) (xs ++ [.string ⟨#[]⟩, .slice (some ⟨w3.heap.size, 0, none⟩) 1 1])) := hid hown4; have HG4 := hid hgrow4; clear hown4 hgrow4))
            have hs3 := HB3.size
            have hgood : GoodVar (w3.alloc (.cells #[.int .i64 pad] 3)) w.heap.size (.slice (some ⟨w3.heap.size, 0, none⟩) 1 1) := pad_good (by omega) hp1 hp2
            have RS := round_step hBr hNr (HB3.alloc (by omega) _) HO.out.1 HV.out hgood HG4.out (s := .string ⟨#[]⟩)
            have HRS : Hid (Vars w4 w.heap.size (k + 1) (xs ++ [.string ⟨#[]⟩, .slice (some ⟨w3.heap.size, 0, none⟩) 1 1]) ∧ Below w.heap.size w w4 ∧ w.heap.size < w4.heap.size) := RS
            clear RS hgood HG4 HO3 HO HV HG3 HB3 hBr
            go_wp2
            go_roundw
            case rel => exact ⟨k + 1, _, by omega, by go_num, rfl, HO4, HRS.out.1, HRS.out.2.1, HRS.out.2.2⟩
            case measure => simp [intOf]; omega
          · obtain ⟨b', o', rfl, hb', hc'⟩ := hZc (by omega)
            have HSRC : Hid (∀ c, c < L → wr.cell? ⟨b', o' + c, none⟩ = some (.int .i64 (Z.getD c 0))) := fun c hc => (hBr.cell (p := ⟨b', o' + c, none⟩) hb').trans (hc' c hc)
            have hb'' : b' < wr.heap.size := by omega
            have hLe : ((L : Int) == 0) = false := by simp; omega
            clear hZc hc'
            obtain ⟨cs, hcs⟩ : ∃ cs, cs = Z.map (Value.int .i64) := ⟨_, rfl⟩
            have HCS : Hid (cs = Z.map (Value.int .i64)) := hcs
            have HRl : Hid (0 + cs.length ≤ R.length) := by show _ ≤ _; rw [HR.out, hcs]; simp [size_madeCells, HZl.out]
            have HCl : Hid (cs.length = Nat.min L L) := by show _ = _; rw [hcs]; simp [HZl.out]
            clear hcs
            go_wp2_with (first
              | (at_make; refine wpList_make_full _ rfl _ _ 22 rfl wr.heap.size 3 i3 (.int .i64 0) 1 Yba.underlying22 hi3 hz30 hz31 _ _ _ _ L rfl rfl (by omega) (by omega) (by rw [hz32]; omega) (by unfold maxLen; omega) (Nat.le_refl _) ?_; intro w2 hown hgrow; have HG2 : Hid (w2.heap[wr.heap.size]? = some (.cells R.toArray 3 (0, 0))) := (by rw [HR.out]; exact owns_block hown); have HB2 := (Below.refl wr.heap.size wr).grown hgrow (Nat.le_refl _) (by simp); clear hown hgrow)
              | (with_reducible (show wpList _ _ _ ({ dst := _, op := Op.call { callee := Callee.builtin Builtin.copy, args := _, argTypes := _ }, type := _, pos := _, after := _, guard := _ } :: _) _ _); (refine wpList_copy_splice (by rfl) (.tmp 46) (.tmp 47) 22 22 (by rfl) 3 Yba.underlying22 size3 (some ⟨wr.heap.size, 0, none⟩) (some ⟨b', o', none⟩) L L L C rfl rfl wr.heap.size 0 R 3 HG2.out cs HCl.out (src_cells HB2 hb'' HCS.out HZl.out HSRC.out rfl) HRl.out (ints_one HCS.out) wr.heap.size wr HB2 (Nat.le_refl _) ?_); intro w3 HG3 HB3; clear HG2 HB2; (have HO3 : Hid (w3.ownsRow w.heap.size 65 2 (.slice (some ⟨w.heap.size, 0, none⟩) k (len + 1)) k xs) := hid (own_kept HO.out HB3)))
              | (at_builtin; refine wpList_append_fits _ rfl (.tmp 54) (.tmp 57) 63 rfl w.heap.size 65 i65 2 Yba.underlying63 hi65 hz651 w.heap.size k (len + 1) xs rfl (HO3.out.alloc _) ⟨w3.heap.size, 0, none⟩ 1 1 [.string ⟨#[]⟩, .slice (some ⟨wr.heap.size, 0, none⟩) L L] rfl (by simp) (two_new _ _ _ _) (two_one _ _ _) (by omega) ?_; intro w4 hown4 hgrow4; have HO4 : Hid (w4.ownsRow w.heap.size 65 2 (.slice (some ⟨w.heap.size, 0, none⟩) (k + 1) (len + 1)) (k + 1) (xs ++ [.string ⟨#[]⟩, .slice (some ⟨wr.heap.size, 0, none⟩) L L])) := hid hown4; have HG4 := hid hgrow4; clear hown4 hgrow4))
            have hgood : GoodVar w3 w.heap.size (.slice (some ⟨wr.heap.size, 0, none⟩) L L) := ⟨wr.heap.size, L, Z, rfl, hNr, by omega, hLk, HZl.out, HZb.out, copied_cells (by rw [← HCS.out]; exact HG3.out) HZl.out⟩
            have RS := round_step hBr hNr HB3 HO.out.1 HV.out hgood HG4.out (s := .string ⟨#[]⟩)
            have HRS : Hid (Vars w4 w.heap.size (k + 1) (xs ++ [.string ⟨#[]⟩, .slice (some ⟨wr.heap.size, 0, none⟩) L L]) ∧ Below w.heap.size w w4 ∧ w.heap.size < w4.heap.size) := RS
            clear RS hgood HG4 HO3 HO HV HG3 HB3 hBr
            go_wp2
            go_roundw
            case rel => exact ⟨k + 1, _, by omega, by go_num, rfl, HO4, HRS.out.1, HRS.out.2.1, HRS.out.2.2⟩
            case measure => simp [intOf]; omega
        · obtain rfl : len = k := by omega
          have hl0 : (0 : Int) < (len : Int) := by omega
          obtain ⟨s, hs⟩ : ∃ s : Nat, (s : Int) = sel % (len : Int) := ⟨(sel % (len : Int)).toNat, by have := Int.emod_nonneg sel (show (len : Int) ≠ 0 by omega); omega⟩
          have hslt : s < len := by have := Int.emod_lt_of_pos sel hl0; omega
          have hs' : sel % (len : Int) = (s : Int) := hs.symm
          clear hs
          have hsi0 : (0 : Int) ≤ (s : Int) := by omega
          have hsi1 : (s : Int) < (len : Int) := by omega
          obtain ⟨v, hxv, g, l, zs, rfl, hg, hl1, hl2, hzl, hzb, hzc⟩ := HV.out s hslt
          have hcell := pair_cell HO.out hxv
          have HZC : Hid (∀ c, c < l → wr.cell? ⟨g, c, none⟩ = some (.int .i64 (zs.getD c 0))) := hzc
          have HZB : Hid (∀ n ∈ zs, -9223372036854775808 ≤ n ∧ n ≤ 9223372036854775807) := hzb
          have HZL : Hid (zs.length = l) := hzl
          clear hzc hzb hzl hxv
          have hgr : g < wr.heap.size := by have := World.block_lt_of_cell? wr _ (HZC.out 0 hl1); simpa using this
          go_wp2_with fail
          refine (Yba.slices_Clone_int g 0 l l zs _ (by have := HZL.out; omega) (by omega) (fun j hj => by rw [Nat.zero_add]; exact HZC.out j (by have := HZL.out; omega))).mono ?_
          rintro e w5 ⟨v', rfl, hown5, hnn, hb5⟩
          rw [List.take_of_length_le (by have := HZL.out; omega)] at hown5
          obtain ⟨g5, c5, rfl, hg5, hz5⟩ := own_form hown5 hnn
          have HZ5 : Hid (∀ j, j < l → w5.cell? ⟨g5, j, none⟩ = some (.int .i64 (zs.getD j 0))) := hz5
          have HW5 : Hid (∀ j, j < l → w5.cell? ⟨g, j, none⟩ = some (.int .i64 (zs.getD j 0))) := fun j hj => (hb5.cell (p := ⟨g, j, none⟩) hgr).trans (HZC.out j hj)
          have hcell5 := (hb5.cell (p := ⟨w.heap.size, s * 2 + 1, none⟩) hNr).trans hcell
          have hs5 := hb5.size
          have hN5 : w.heap.size < w5.heap.size := by omega
          have hgg5 : g5 < w5.heap.size := by have := World.block_lt_of_cell? w5 _ (HZ5.out 0 hl1); simpa using this
          have hgr5 : g < w5.heap.size := by omega
          have HB5 : Hid (Below w.heap.size w w5) := hBr.trans (hb5.mono (by omega))
          clear hz5 hown5 hnn hb5 hcell
          obtain ⟨x, hx⟩ : ∃ x, x = zs.getD 0 0 := ⟨_, rfl⟩
          obtain ⟨y, hy⟩ : ∃ y, y = zs.getD (l - 1) 0 := ⟨_, rfl⟩
          have hxb := getD_bound HZB.out 0
          have hyb := getD_bound HZB.out (l - 1)
          have hx5 := HW5.out 0 hl1
          have hy5 := HW5.out (l - 1) (by omega)
          rw [← hx] at hxb hx5
          rw [← hy] at hyb hy5
          clear hx hy
          obtain ⟨hxb1, hxb2⟩ := hxb
          obtain ⟨hyb1, hyb2⟩ := hyb
          have hll : (l : Int) ≤ 1024 := by omega
          have hl10 : (0 : Int) < (l : Int) := by omega
          have hEq : (zs.take l == zs.take l) = true := by simp
          clear HO HV HL HC HD HZC
          go_wp2_with fail
          refine (magn_any w5.heap.size w.heap.size len (len + 1) s g 0 l l x y _ hslt (by omega) hl1 hl2 hxb1 hxb2 hyb1 hyb2 ?_ ?_ ?_ ?_).mono ?_
          · simp
          · rw [World.cell?_alloc_past _ _ _ hN5]; exact hcell5
          · rw [World.cell?_alloc_past _ _ _ hgr5]; exact hx5
          · rw [World.cell?_alloc_past _ _ _ hgr5, Nat.zero_add]; exact hy5
          rintro e w6 ⟨rfl, q, rfl⟩
          go_wp2_with fail
          refine (Yba.slices_Equal_int g 0 l l g5 0 l c5 zs zs _ (by have := HZL.out; omega) (by have := HZL.out; omega) (by omega) (by omega) (fun j hj => ?_) (fun j hj => ?_)).mono ?_
          · rw [World.cell?_drewN, World.cell?_alloc_past _ _ _ hgr5, Nat.zero_add]; exact HW5.out j (by have := HZL.out; omega)
          · rw [World.cell?_drewN, World.cell?_alloc_past _ _ _ hgg5, Nat.zero_add]; exact HZ5.out j (by have := HZL.out; omega)
          rintro e w7 ⟨rfl, q2, rfl⟩
          by_cases hxy : mag x < mag y
          · have h2 : mag2 x y = mag y := by simp [mag2, hxy]
            go_wp2_with (go_at_call 14; refine (zzabs_any _ _ (by assumption) (by assumption)).mono ?_; rintro e w8 ⟨rfl, rfl⟩)
            go_ret
            exact ⟨rfl, below_drewN (HB5.out.alloc (by omega) _) _⟩
          · have h2 : mag2 x y = mag x := by simp [mag2, hxy]
            go_wp2_with (go_at_call 14; refine (zzabs_any _ _ (by assumption) (by assumption)).mono ?_; rintro e w8 ⟨rfl, rfl⟩)
            go_ret
            exact ⟨rfl, below_drewN (HB5.out.alloc (by omega) _) _⟩
end Go.Proofs.Ybulkcgrs.CEnds
