/- The proof of 'Rows.FnPushKeepsEveryListIntactSaid'. -/
import Derived.Test.Qxb6607685aRows
import Derived.Test.Qxb6607685aKeeps
import Derived.Test.Qxb6607685aView
import Derived.WalkKit
import Derived.ProofKit
import Derived.OpenShut
import Derived.Carry
namespace Go.Proofs.Qxb6607685a.fnPushKeepsEveryListIntact
open Go.ChangeShapes Go.WideShapes Go.ChangeAt Go.RowKit
set_option linter.unusedVariables false

theorem own : ownKnob Try.prog.godebug = none := by kernel_rfl
theorem laidOut : laidOutB Try.prog = true := by kernel_rfl

set_option maxRecDepth 100000 in
theorem lifted (os : Os) (started : os.Started) (H : Type) (enc : TypeId × Value → H) :
    ReturnsInHanded {} Try.checked os 4 .any (Rows.fnPushKeepsEveryListIntactSpec.pre6 enc Try.prog Try.f4 Rows.fnPushKeepsEveryListIntactRow.domain false) (Rows.fnPushKeepsEveryListIntactSpec.post enc Try.prog Try.f4 false true false false) := by
  refine returnsInHanded_of_change (C := Try.checked) own started (by kernel_rfl) Try.func4
    (ChangeSpec.witness6 (enc := enc) (C := Try.checked) false ⟨#[], #[.slice none 0 0], []⟩ 8 (by kernel_rfl) (by kernel_rfl) (by kernel_rfl) (by kernel_rfl)) ?_
  intro W base args ds gs before hval0 hW hcnd _
  have hval : ∀ (j : Nat) t v, Try.f4.params[j]? = some t → args[j]? = some v → Value.okWide Try.prog W .any base t v := hval0
  have hW' := hW
  obtain ⟨p, q, hA0, hV, rfl, hfz, hnd⟩ := hW
  have hA : DataW.TrodAll enc Try.prog W 0 (fun _ => true) true Try.f4.params.toList args.toList ds p := hA0
  rw [Try.params4] at hA hval
  obtain ⟨v0, vs0, d0, ds0, p0, q0, hargs, rfl, rfl, h0, r0⟩ := trodAll_cons hA
  obtain ⟨rfl, rfl, rfl⟩ := trodAll_nil r0
  obtain rfl : args = #[v0] := by cases args; simp_all
  obtain ⟨rfl, rfl⟩ := trodVars_none hV
  obtain ⟨ao, n, c, rfl⟩ := okWide_slice Try.underlying38 (hval 0 38 v0 rfl rfl)
  clear hA0 hval0
  have hlt0 : ∀ x ∈ p0, x.block < W.heap.size := fun x hx => by simpa using hW'.lt x (by simp [hx])
  have walk : Calls Try.prog 4 #[.slice ao n c] W fun e w' => e = .returned (.bool true) ∧ Below W.heap.size W w' := by
    rcases view_pairs Try.underlying38 Try.underlying41 cells41 rfl rfl rfl rfl h0 with rfl | ⟨b, off, F0, F1, rfl, hb, hn, l0, l1, c0, c1⟩
    · exact keeps_none ao c W
    · rcases Nat.lt_or_ge 4096 n with hl | hl
      · exact keeps_long _ n c W hl
      · exact keeps_pos b off n c (fun j => (F1 j : Int)) F0 W hl hn hb l0 c0 c1
  refine walk.mono fun e W' ⟨he, bel⟩ => ?_
  subst he
  refine ⟨_, rfl, _, _, _, [], p0 ++ [], [], hW', ?_, ?_, rfl, bel.frame _, fun h => by cases h⟩
  · exact trodAll_cons_mk (shut_bool Try.underlying4 _) trodAll_mk0
  · exact trodAll_cons_mk (Below.trod laidOut (by kernel_rfl) (of_decide_eq_true (by kernel_rfl)) h0 bel hlt0) trodAll_mk0

theorem over : Rows.fnPushKeepsEveryListIntactRow.holds Try.pinned (OpenSpec.ofChange Rows.fnPushKeepsEveryListIntactSpec) :=
  OpenClaim.holds_of_wide 4 Try.f4 rfl rfl rfl rfl rfl rfl rfl ⟨rfl, rfl, rfl, rfl, rfl⟩ rfl rfl rfl rfl rfl (by kernel_rfl) Try.func4 (by kernel_rfl)
    (of_decide_eq_true (by kernel_rfl)) (by unfold Func.isWrapper; first | (rw [if_pos (by decide +kernel)]; kernel_rfl) | (rw [if_neg (by decide +kernel)]; exact ⟨rfl, rfl⟩))
    (fun os started H enc _ => lifted os started H enc)

/-- THE STATEMENT -/
theorem proved : Rows.FnPushKeepsEveryListIntactSaid :=
  over
end Go.Proofs.Qxb6607685a.fnPushKeepsEveryListIntact
