/- The proof of 'Rows.FnPushStacksEntriesNewestFirstSaid'. -/
import Derived.Test.Qxb6607685aRows
import Derived.Test.Qxb6607685aStacks
import Derived.Test.Qxb6607685aView
import Derived.WalkKit
import Derived.ProofKit
import Derived.OpenShut
import Derived.Carry
namespace Go.Proofs.Qxb6607685a.fnPushStacksEntriesNewestFirst
open Go.ChangeShapes Go.WideShapes Go.ChangeAt Go.RowKit
set_option linter.unusedVariables false

theorem own : ownKnob Try.prog.godebug = none := by kernel_rfl
theorem laidOut : laidOutB Try.prog = true := by kernel_rfl

/-- A slice of uint32 that came in, for the walk. -/
theorem view_ints {H : Type} {enc : TypeId × Value → H} {W : World} {ao : Option Addr} {n c : Nat} {d : DataW H} {ps : List MemPlace} (h : DataW.Trod enc Try.prog W 0 (fun _ => true) true 24 (.slice ao n c) d ps) :
    n = 0 ∨ ∃ (b off : Nat) (F : Nat → Nat), ao = some ⟨b, off, none⟩ ∧ b < W.heap.size ∧ 0 < n ∧ ∀ j, j < n → W.cell? ⟨b, off + j, none⟩ = some (.int .u32 (F j)) := by
  obtain ⟨fuel, hf⟩ := h
  rcases open_ints Try.underlying24 Try.underlying23 cells23 hf with ⟨hcs, hx⟩ | ⟨a, len', cap', zs, hcs, _, hl, hm, hz, hx, hcell, hwz⟩
  · simp [Value.cells] at hcs
    exact Or.inl hcs.2.1
  · simp [Value.cells] at hcs
    obtain ⟨rfl, rfl, rfl⟩ := hcs
    rcases Nat.eq_zero_or_pos n with h0 | h0
    · exact Or.inl h0
    right
    simp only [if_true] at hz
    have each : ∀ j, j < n → W.cell? (a.add j) = some (.int .u32 ((zs.getD j 0).toNat : Nat)) := by
      intro j hj
      have hj' : j < zs.length := by omega
      have hw := bounds_u32 (hwz (zs.getD j 0) (by rw [List.getD_eq_getElem?_getD, List.getElem?_eq_getElem hj']; exact List.getElem_mem hj'))
      rw [hcell j (by omega)]
      have e : ((zs.getD j 0).toNat : Int) = zs.getD j 0 := by omega
      rw [e]
    have hsp : a.spot = none := by
      have := each 0 h0
      exact World.cell?_spot (by simpa [Addr.add] using this)
    obtain ⟨b, off, spot⟩ := a
    simp only at hsp
    subst hsp
    have hb : b < W.heap.size := World.block_lt_of_cell? W _ (by have := each 0 h0; rw [add_at] at this; exact this)
    refine ⟨b, off, fun j => (zs.getD j 0).toNat, rfl, hb, h0, fun j hj => ?_⟩
    have := each j hj
    rw [add_at] at this
    exact this

/-- All the walks at one place. -/
theorem walk (ao bo : Option Addr) (n c m d b off b2 off2 : Nat) (En Rs Es : Nat → Nat) (head : Nat) (w : World) (hhd : head < 4294967296)
    (hao : 0 < n → ao = some ⟨b, off, none⟩ ∧ b < w.heap.size) (hbo : 0 < m → bo = some ⟨b2, off2, none⟩ ∧ b2 < w.heap.size)
    (hc0 : ∀ j, j < n → w.cell? ⟨b, off + j * 2, none⟩ = some (.int .u32 (En j))) (hc1 : ∀ j, j < n → w.cell? ⟨b, off + j * 2 + 1, none⟩ = some (.int .u32 (Rs j)))
    (hc2 : ∀ j, j < m → w.cell? ⟨b2, off2 + j, none⟩ = some (.int .u32 (Es j))) :
    Calls Try.prog 3 #[.slice ao n c, .int .u32 head, .slice bo m d] w fun e w' => e = .returned (.bool true) ∧ Below w.heap.size w w' := by
  rcases Nat.lt_or_ge 1048576 (n + m) with h | h
  · exact stacks_bytes ao bo n c m d head w h
  · rcases Nat.lt_or_ge 65536 n with h1 | h1
    · exact stacks_long1 ao bo n c m d head w h h1
    · rcases Nat.lt_or_ge 65536 m with h2 | h2
      · exact stacks_long2 ao bo n c m d head w h h1 h2
      · exact stacks_main ao bo n c m d b off b2 off2 En Rs Es head w h1 h2 hao hbo hc0 hc1 hc2

set_option maxRecDepth 100000 in
theorem lifted (os : Os) (started : os.Started) (H : Type) (enc : TypeId × Value → H) :
    ReturnsInHanded {} Try.checked os 3 .any (Rows.fnPushStacksEntriesNewestFirstSpec.pre6 enc Try.prog Try.f3 Rows.fnPushStacksEntriesNewestFirstRow.domain false) (Rows.fnPushStacksEntriesNewestFirstSpec.post enc Try.prog Try.f3 false true false false) := by
  refine returnsInHanded_of_change (C := Try.checked) own started (by kernel_rfl) Try.func3
    (ChangeSpec.witness6 (enc := enc) (C := Try.checked) false ⟨#[], #[.slice none 0 0, .int .u32 0, .slice none 0 0], []⟩ 8 (by kernel_rfl) (by kernel_rfl) (by kernel_rfl) (by kernel_rfl)) ?_
  intro W base args ds gs before hval0 hW hcnd _
  have hval : ∀ (j : Nat) t v, Try.f3.params[j]? = some t → args[j]? = some v → Value.okWide Try.prog W .any base t v := hval0
  have hW' := hW
  obtain ⟨p, q, hA0, hV, rfl, hfz, hnd⟩ := hW
  have hA : DataW.TrodAll enc Try.prog W 0 (fun _ => true) true Try.f3.params.toList args.toList ds p := hA0
  rw [Try.params3] at hA hval
  obtain ⟨v0, vs0, d0, ds0, p0, q0, hargs, rfl, rfl, h0, r0⟩ := trodAll_cons hA
  obtain ⟨v1, vs1, d1, ds1, p1, q1, rfl, rfl, rfl, h1, r1⟩ := trodAll_cons r0
  obtain ⟨v2, vs2, d2, ds2, p2, q2, rfl, rfl, rfl, h2, r2⟩ := trodAll_cons r1
  obtain ⟨rfl, rfl, rfl⟩ := trodAll_nil r2
  obtain rfl : args = #[v0, v1, v2] := by cases args; simp_all
  obtain ⟨rfl, rfl⟩ := trodVars_none hV
  obtain ⟨ao, n, c, rfl⟩ := okWide_slice Try.underlying22 (hval 0 22 v0 rfl rfl)
  obtain ⟨z1, rfl, rfl, rfl, w1⟩ := open_int Try.underlying23 (hval 1 23 v1 rfl rfl) h1
  obtain ⟨bo, m, d, rfl⟩ := okWide_slice Try.underlying24 (hval 2 24 v2 rfl rfl)
  clear hA0 hval0
  obtain ⟨head, rfl, hhd⟩ := nat_of_u32 w1
  have hlt0 : ∀ x ∈ p0, x.block < W.heap.size := fun x hx => by simpa using hW'.lt x (by simp [hx])
  have hlt2 : ∀ x ∈ p2, x.block < W.heap.size := fun x hx => by simpa using hW'.lt x (by simp [hx])
  have go : Calls Try.prog 3 #[.slice ao n c, .int .u32 head, .slice bo m d] W fun e w' => e = .returned (.bool true) ∧ Below W.heap.size W w' := by
    rcases view_pairs Try.underlying22 Try.underlying32 cells32 rfl rfl rfl rfl h0 with rfl | ⟨b, off, F0, F1, rfl, hb, hn, l0, l1, c0, c1⟩
    · rcases view_ints h2 with rfl | ⟨b2, off2, F, rfl, hb2, hm, c2⟩
      · exact walk ao bo 0 c 0 d 0 0 0 0 (fun _ => 0) (fun _ => 0) (fun _ => 0) head W hhd (fun h => by omega) (fun h => by omega) (fun j h => by omega) (fun j h => by omega) (fun j h => by omega)
      · exact walk ao _ 0 c m d 0 0 b2 off2 (fun _ => 0) (fun _ => 0) F head W hhd (fun h => by omega) (fun _ => ⟨rfl, hb2⟩) (fun j h => by omega) (fun j h => by omega) c2
    · rcases view_ints h2 with rfl | ⟨b2, off2, F, rfl, hb2, hm, c2⟩
      · exact walk _ bo n c 0 d b off 0 0 F0 F1 (fun _ => 0) head W hhd (fun _ => ⟨rfl, hb⟩) (fun h => by omega) c0 c1 (fun j h => by omega)
      · exact walk _ _ n c m d b off b2 off2 F0 F1 F head W hhd (fun _ => ⟨rfl, hb⟩) (fun _ => ⟨rfl, hb2⟩) c0 c1 c2
  refine go.mono fun e W' ⟨he, bel⟩ => ?_
  subst he
  refine ⟨_, rfl, _, _, _, [], p0 ++ ([] ++ (p2 ++ [])), [], hW', ?_, ?_, rfl, bel.frame _, fun h => by cases h⟩
  · exact trodAll_cons_mk (shut_bool Try.underlying4 _) trodAll_mk0
  · exact trodAll_cons_mk (Below.trod laidOut (by kernel_rfl) (of_decide_eq_true (by kernel_rfl)) h0 bel hlt0) (trodAll_cons_mk (shut_int Try.underlying23 w1) (trodAll_cons_mk (Below.trod laidOut (by kernel_rfl) (of_decide_eq_true (by kernel_rfl)) h2 bel hlt2) trodAll_mk0))

theorem over : Rows.fnPushStacksEntriesNewestFirstRow.holds Try.pinned (OpenSpec.ofChange Rows.fnPushStacksEntriesNewestFirstSpec) :=
  OpenClaim.holds_of_wide 3 Try.f3 rfl rfl rfl rfl rfl rfl rfl ⟨rfl, rfl, rfl, rfl, rfl⟩ rfl rfl rfl rfl rfl (by kernel_rfl) Try.func3 (by kernel_rfl)
    (of_decide_eq_true (by kernel_rfl)) (by unfold Func.isWrapper; first | (rw [if_pos (by decide +kernel)]; kernel_rfl) | (rw [if_neg (by decide +kernel)]; exact ⟨rfl, rfl⟩))
    (fun os started H enc _ => lifted os started H enc)

/-- THE STATEMENT -/
theorem proved : Rows.FnPushStacksEntriesNewestFirstSaid :=
  over
end Go.Proofs.Qxb6607685a.fnPushStacksEntriesNewestFirst
