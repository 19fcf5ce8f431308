/- 'Rows.LawS4153CFirstSaid': the frame is turned from the kit's shell for a law; the walks are ours. -/
import Derived.Test.YbulkcgzgRows
import Derived.WalkKit
import Derived.ProofKit
import Derived.OpenShut
import Derived.ShutString
import Derived.ChangeOld
import Derived.Below
import Derived.Test.YbulkcgzgOpen
namespace Go.Proofs.Ybulkcgzg.lawS4153CFirst
open Go.ChangeShapes Go.WideShapes Go.ChangeAt Go.RowKit
set_option linter.unusedVariables false

theorem own : ownKnob Yba.prog.godebug = none := by kernel_rfl
theorem laidOut : laidOutB Yba.prog = true := by kernel_rfl

theorem walk (a0 : Option Addr) (len0 cap0 : Nat) (S : Nat → StmtD) (a1 : Int) (w : World) (w0 : StmtRow w a0 len0 S) (wn : ∀ i, i < len0 → (S i).n ≤ 140737488355328) (w1 : (Lit.int .u8 a1).wf = true) :
    Calls Yba.prog 3 #[.slice a0 len0 cap0, .int .u8 a1] w fun e w' => e = .returned (.bool true) ∧ Below w.heap.size w w' := by
  have hp := bounds_u8 w1
  by_cases hL : 512 < len0
  · exact lawL a0 len0 cap0 a1 w hL
  by_cases h4 : a1 % 5 < 4
  · exact lawA a0 len0 cap0 S a1 w (by omega) hp.1 hp.2 h4 wn w0
  · exact lawB a0 len0 cap0 S a1 w (by omega) hp.1 hp.2 (by omega) wn w0

set_option maxRecDepth 100000 in
theorem lifted (os : Os) (started : os.Started) (H : Type) (enc : TypeId × Value → H) :
    ReturnsInHanded {} Yba.checked os 3 .any (Rows.lawS4153CFirstSpec.pre6 enc Yba.prog Yba.f3 Rows.lawS4153CFirstRow.domain false) (Rows.lawS4153CFirstSpec.post enc Yba.prog Yba.f3 false true false false) := by
  refine returnsInHanded_of_change_sized (C := Yba.checked) own started (by kernel_rfl) Yba.func3
    (ChangeSpec.witness6 (enc := enc) (C := Yba.checked) false ⟨#[], #[.slice none 0 0, .int .u8 0], []⟩ 8 (by kernel_rfl) (by kernel_rfl) (by kernel_rfl) (by kernel_rfl)) ?_
  intro W base args ds gs before hval0 hW _ hsz0 _
  have hsz : (DataW.weightsEach Yba.prog (Yba.f3.params.toList ++ Rows.lawS4153CFirstSpec.plain.varTypes Yba.prog) (ds ++ gs)).all (· ≤ reachBytes) = true := hsz0
  clear hsz0
  have hval : ∀ (j : Nat) t v, Yba.f3.params[j]? = some t → args[j]? = some v → Value.okWide Yba.prog W .any base t v := hval0
  have hW' := hW
  obtain ⟨p, q, hA0, hV, rfl, hfz, hnd⟩ := hW
  have hA : DataW.TrodAll enc Yba.prog W 0 (fun _ => true) true Yba.f3.params.toList args.toList ds p := hA0
  rw [Yba.params3] at hA hval hsz
  obtain ⟨v0, vs0, d0, ds0, p0, q0, hargs, rfl, rfl, h0, r0⟩ := trodAll_cons hA
  obtain ⟨v1, vs1, d1, ds1, p1, q1, rfl, rfl, rfl, h1, r1⟩ := trodAll_cons r0
  obtain ⟨rfl, rfl, rfl⟩ := trodAll_nil r1
  obtain rfl : args = #[v0, v1] := by cases args; simp_all
  obtain ⟨rfl, rfl⟩ := trodVars_none hV
  obtain ⟨a0, len0, cap0, rfl⟩ := okWide_slice Yba.underlying22 (hval 0 22 v0 rfl rfl)
  have k0 := h0
  have lt0 : ∀ x ∈ p0, x.block < W.heap.size := by obtain ⟨m, hm⟩ := k0; exact DataW.trod_lt m _ _ _ hm
  obtain ⟨S, w0, wn⟩ : ∃ S, StmtRow W a0 len0 S ∧ ∀ i, i < len0 → (S i).n ≤ 140737488355328 := by
    obtain ⟨fuel, hf⟩ := h0
    have hw : ∀ k ∈ d0.weights Yba.prog 22, k ≤ reachBytes := fun k hk => by
      have := List.all_eq_true.1 hsz k (DataW.weights_mem_each (j := 0) (t := 22) (d := d0) rfl rfl k hk)
      simpa using this
    obtain ⟨a, n, c, S, hv, hS, hn⟩ := open_stmts (x := (d0, p0)) (by simpa [Value.cells] using hf) hw
    simp at hv
    obtain ⟨rfl, rfl, rfl⟩ := hv
    exact ⟨S, hS, hn⟩
  obtain ⟨a1, rfl, rfl, rfl, w1⟩ := open_int Yba.underlying5 (hval 1 5 v1 rfl rfl) h1
  clear hA0 hval0
  refine (walk a0 len0 cap0 S a1 W w0 wn w1).mono fun e W' ⟨he, bel⟩ => ?_
  subst he
  exact ⟨_, rfl, _, _, _, [], _, [], hW', trodAll_mk1 (shut_bool Yba.underlying4 _), (trodAll_cons_mk (Below.trod laidOut (by kernel_rfl) (of_decide_eq_true (by kernel_rfl)) k0 bel lt0) (trodAll_cons_mk (shut_int Yba.underlying5 w1) trodAll_mk0)), rfl, bel.frame _, fun h => by cases h⟩

theorem over : Rows.lawS4153CFirstRow.holds Yba.pinned (OpenSpec.ofChange Rows.lawS4153CFirstSpec) :=
  OpenClaim.holds_of_wide 3 Yba.f3 rfl rfl rfl rfl rfl rfl rfl ⟨rfl, rfl, rfl, rfl, rfl⟩ rfl rfl rfl rfl rfl (by kernel_rfl) Yba.func3 (by kernel_rfl)
    (of_decide_eq_true (by kernel_rfl)) (by unfold Func.isWrapper; first | (rw [if_pos (by decide +kernel)]; kernel_rfl) | (rw [if_neg (by decide +kernel)]; exact ⟨rfl, rfl⟩))
    (fun os started H enc _ => lifted os started H enc)

/-- THE STATEMENT -/
theorem proved : Rows.LawS4153CFirstSaid := over
end Go.Proofs.Ybulkcgzg.lawS4153CFirst
