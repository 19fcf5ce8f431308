/- 'Rows.LawS4139CEndsSaid': the frame is turned from the kit's shell for a law; the walks are ours. -/
import Derived.Test.YbulkcgrsRows
import Derived.WalkKit
import Derived.ProofKit
import Derived.OpenShut
import Derived.ShutString
import Derived.ChangeOld
import Derived.Below
import Derived.Deep.Matrix
import Derived.Test.YbulkcgrsCEndsZero
namespace Go.Proofs.Ybulkcgrs.CEnds
open Go.ChangeShapes Go.WideShapes Go.ChangeAt Go.RowKit Go.Deep
set_option linter.unusedVariables false

theorem own : ownKnob Yba.prog.godebug = none := by kernel_rfl
theorem laidOut : laidOutB Yba.prog = true := by kernel_rfl

/-- What the walk is told of the slice of slices that came in. -/
def IsRows (w : World) (a : Option Addr) (len : Nat) : Prop :=
  len = 0 ∨ ∃ b off, a = some ⟨b, off, none⟩ ∧ ∃ V : Nat → Value, (∀ r, r < len → w.cell? ⟨b, off + r, none⟩ = some (V r)) ∧ ∀ r, r < len → DomIs w (V r)

theorem walk (a0 : Option Addr) (len0 cap0 : Nat) (a1 a2 : Int) (w : World) (w0 : IsRows w a0 len0) (w1 : (Lit.int .i64 a1).wf = true) (w2 : (Lit.int .u16 a2).wf = true) :
    Calls Yba.prog 6 #[.slice a0 len0 cap0, .int .i64 a1, .int .u16 a2] w fun e w' => e = .returned (.bool true) ∧ Below w.heap.size w w' := by
  have hp := bounds_i64 w1
  have hs := bounds_u16 w2
  by_cases hL : 1024 < len0
  · exact walkL a0 len0 cap0 a1 a2 w hL
  by_cases h0 : len0 = 0
  · subst h0
    exact walk0 a0 cap0 a1 a2 w hp.1 hp.2 hs.1 hs.2
  rcases w0 with h | ⟨b, off, rfl, V, hc, hd⟩
  · exact absurd h h0
  · exact walkP b off len0 cap0 V a1 a2 w (by omega) (by omega) hp.1 hp.2 hs.1 hs.2 hc hd

set_option maxRecDepth 100000 in
theorem lifted (os : Os) (started : os.Started) (H : Type) (enc : TypeId × Value → H) :
    ReturnsInHanded {} Yba.checked os 6 .any (Rows.lawS4139CEndsSpec.pre6 enc Yba.prog Yba.f6 Rows.lawS4139CEndsRow.domain false) (Rows.lawS4139CEndsSpec.post enc Yba.prog Yba.f6 false true false false) := by
  refine returnsInHanded_of_change (C := Yba.checked) own started (by kernel_rfl) Yba.func6
    (ChangeSpec.witness6 (enc := enc) (C := Yba.checked) false ⟨#[], #[.slice none 0 0, .int .i64 0, .int .u16 0], []⟩ 8 (by kernel_rfl) (by kernel_rfl) (by kernel_rfl) (by kernel_rfl)) ?_
  intro W base args ds gs before hval0 hW hcnd _
  have hval : ∀ (j : Nat) t v, Yba.f6.params[j]? = some t → args[j]? = some v → Value.okWide Yba.prog W .any base t v := hval0
  have hW' := hW
  obtain ⟨p, q, hA0, hV, rfl, hfz, hnd⟩ := hW
  have hA : DataW.TrodAll enc Yba.prog W 0 (fun _ => true) true Yba.f6.params.toList args.toList ds p := hA0
  rw [Yba.params6] at hA hval
  obtain ⟨v0, vs0, d0, ds0, p0, q0, hargs, rfl, rfl, h0, r0⟩ := trodAll_cons hA
  obtain ⟨v1, vs1, d1, ds1, p1, q1, rfl, rfl, rfl, h1, r1⟩ := trodAll_cons r0
  obtain ⟨v2, vs2, d2, ds2, p2, q2, rfl, rfl, rfl, h2, r2⟩ := trodAll_cons r1
  obtain ⟨rfl, rfl, rfl⟩ := trodAll_nil r2
  obtain rfl : args = #[v0, v1, v2] := by cases args; simp_all
  obtain ⟨rfl, rfl⟩ := trodVars_none hV
  obtain ⟨a0, len0, cap0, rfl⟩ := okWide_slice Yba.underlying27 (hval 0 27 v0 rfl rfl)
  have k0 := h0
  have lt0 : ∀ x ∈ p0, x.block < W.heap.size := by obtain ⟨m, hm⟩ := k0; exact DataW.trod_lt m _ _ _ hm
  have w0 : IsRows W a0 len0 := by
    by_cases hl0 : len0 = 0
    · exact .inl hl0
    obtain ⟨fuel, hf⟩ := h0
    rcases open_int_rows Yba.underlying27 Yba.underlying22 Yba.underlying3 (by kernel_rfl) (by kernel_rfl) hf with ⟨hcs, _⟩ | ⟨x, l, c, A, L, C, Z, hcs, _, hl, hm, _, hr⟩
    · simp [Value.cells] at hcs
      exact absurd hcs.2.1 hl0
    · simp [Value.cells] at hcs
      obtain ⟨rfl, rfl, rfl⟩ := hcs
      obtain ⟨b, off, spot⟩ := x
      have hspot : spot = none := by simpa [Addr.add] using World.cell?_spot (hr 0 (by omega)).1
      subst hspot
      refine .inr ⟨b, off, rfl, fun r => .slice (A r) (L r) (C r), fun r hrl => ?_, fun r hrl => ?_⟩
      · have h := (hr r (by omega)).1
        rwa [Addr.add_lit] at h
      · obtain ⟨_, hLC, hCm, hZ, hwz, hnone, hsome⟩ := hr r (by omega)
        refine ⟨A r, L r, C r, (Z r).take (L r), rfl, by simp; omega, fun n hn => bounds_i64 (hwz n (List.mem_of_mem_take hn)), fun hL => ?_⟩
        cases hAr : A r with
        | none => have := hnone hAr; omega
        | some a' =>
          obtain ⟨_, hcell⟩ := hsome a' hAr
          obtain ⟨b', o', spot'⟩ := a'
          have hs' : spot' = none := by simpa [Addr.add] using World.cell?_spot (hcell 0 (by omega))
          subst hs'
          refine ⟨b', o', rfl, ?_, fun c hc => ?_⟩
          · have := World.block_lt_of_cell? W _ (hcell 0 (by omega)); simpa [Addr.add] using this
          · have h := hcell c (by omega)
            rw [Addr.add_lit] at h
            rw [h]
            simp [List.getD, hc]
  obtain ⟨a1, rfl, rfl, rfl, w1⟩ := open_int Yba.underlying3 (hval 1 3 v1 rfl rfl) h1
  obtain ⟨a2, rfl, rfl, rfl, w2⟩ := open_int Yba.underlying62 (hval 2 62 v2 rfl rfl) h2
  clear hA0 hval0
  refine (walk a0 len0 cap0 a1 a2 W w0 w1 w2).mono fun e W' ⟨he, bel⟩ => ?_
  subst he
  exact ⟨_, rfl, _, _, _, [], _, [], hW', trodAll_mk1 (shut_bool Yba.underlying4 _), (trodAll_cons_mk (Below.trod laidOut (by kernel_rfl) (of_decide_eq_true (by kernel_rfl)) k0 bel lt0) (trodAll_cons_mk (shut_int Yba.underlying3 w1) (trodAll_cons_mk (shut_int Yba.underlying62 w2) trodAll_mk0))), rfl, bel.frame _, fun h => by cases h⟩

theorem over : Rows.lawS4139CEndsRow.holds Yba.pinned (OpenSpec.ofChange Rows.lawS4139CEndsSpec) :=
  OpenClaim.holds_of_wide 6 Yba.f6 rfl rfl rfl rfl rfl rfl rfl ⟨rfl, rfl, rfl, rfl, rfl⟩ rfl rfl rfl rfl rfl (by kernel_rfl) Yba.func6 (by kernel_rfl)
    (of_decide_eq_true (by kernel_rfl)) (by unfold Func.isWrapper; first | (rw [if_pos (by decide +kernel)]; kernel_rfl) | (rw [if_neg (by decide +kernel)]; exact ⟨rfl, rfl⟩))
    (fun os started H enc _ => lifted os started H enc)

/-- THE STATEMENT -/
theorem proved : Rows.LawS4139CEndsSaid := over
end Go.Proofs.Ybulkcgrs.CEnds
