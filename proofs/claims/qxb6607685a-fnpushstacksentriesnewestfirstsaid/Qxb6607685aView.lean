/-
  What a slice of two-number structs that came in reads as, for the walks.
-/
import Derived.Test.Qxb6607685aKept
import Derived.Test.Qxb6607685aRows
import Derived.Deep.SlicePairs
import Derived.ProofKit
namespace Go.Proofs.Qxb6607685a
open Go Go.RowKit Go.ChangeShapes Go.WideShapes Go.Deep

theorem cells23 : Try.prog.cellsOf 23 = 1 := by kernel_rfl
theorem cells41 : Try.prog.cellsOf 41 = 2 := by kernel_rfl
theorem cells32 : Try.prog.cellsOf 32 = 2 := by kernel_rfl

theorem nat_of_u32 {z : Int} (h : (Lit.int .u32 z).wf = true) : ∃ q : Nat, z = q ∧ q < 4294967296 := by
  have := bounds_u32 h
  exact ⟨z.toNat, by omega, by omega⟩

theorem view_pairs {H : Type} {enc : TypeId × Value → H} {W : World} {t e : TypeId} {f0 f1 : Field} {ao : Option Addr} {n c : Nat} {d : DataW H} {ps : List MemPlace}
    (ht : Try.prog.underlying t = some (.slice e)) (he : Try.prog.underlying e = some (.struct #[f0, f1])) (ce : Try.prog.cellsOf e = 2) (o0 : f0.offset = 0) (o1 : f1.offset = 1) (t0 : f0.type = 23) (t1 : f1.type = 23)
    (h : DataW.Trod enc Try.prog W 0 (fun _ => true) true t (.slice ao n c) d ps) :
    n = 0 ∨ ∃ (b off : Nat) (F0 F1 : Nat → Nat), ao = some ⟨b, off, none⟩ ∧ b < W.heap.size ∧ 0 < n ∧ (∀ j, j < n → F0 j < 4294967296) ∧ (∀ j, j < n → F1 j < 4294967296) ∧
      (∀ j, j < n → W.cell? ⟨b, off + j * 2, none⟩ = some (.int .u32 (F0 j))) ∧ (∀ j, j < n → W.cell? ⟨b, off + j * 2 + 1, none⟩ = some (.int .u32 (F1 j))) := by
  obtain ⟨fuel, hf⟩ := h
  rcases open_slice_pairs ht he ce o0 o1 (by rw [t0]; exact cells23) (by rw [t1]; exact cells23) hf with ⟨hcs, _⟩ | ⟨a, len, cap, m, k, V0, V1, D0, D1, P0, P1, hcs, _, hl, _, hm, _, hx⟩
  · simp [Value.cells] at hcs
    exact Or.inl hcs.2.1
  · simp [Value.cells] at hcs
    obtain ⟨rfl, rfl, rfl⟩ := hcs
    rcases Nat.eq_zero_or_pos n with h0 | h0
    · exact Or.inl h0
    right
    simp only [if_true] at hm
    subst hm
    have each : ∀ j, j < n → ∃ q : Nat × Nat, (q.1 < 4294967296 ∧ q.2 < 4294967296) ∧ W.cell? (a.add (j * 2)) = some (.int .u32 q.1) ∧ W.cell? (a.add (j * 2 + 1)) = some (.int .u32 q.2) := by
      intro j hj
      obtain ⟨h1, h2, h3, h4⟩ := hx j (by omega)
      rw [t0] at h3
      rw [t1] at h4
      obtain ⟨z0, e0, _, w0⟩ := DataW.trod_int Try.underlying23 h3
      obtain ⟨z1, e1, _, w1⟩ := DataW.trod_int Try.underlying23 h4
      obtain ⟨q0, rfl, l0⟩ := nat_of_u32 w0
      obtain ⟨q1, rfl, l1⟩ := nat_of_u32 w1
      simp at e0 e1
      exact ⟨(q0, q1), ⟨l0, l1⟩, by rw [h1, e0], by rw [h2, e1]⟩
    obtain ⟨q, hq⟩ := choose_lt each
    have hsp : a.spot = none := by
      have := (hq 0 h0).2.1
      exact World.cell?_spot (by simpa [Addr.add] using this)
    obtain ⟨b, off, spot⟩ := a
    simp only at hsp
    subst hsp
    have hb : b < W.heap.size := World.block_lt_of_cell? W _ (by have := (hq 0 h0).2.1; rw [add_at] at this; exact this)
    refine ⟨b, off, fun j => (q j).1, fun j => (q j).2, rfl, hb, h0, fun j hj => (hq j hj).1.1, fun j hj => (hq j hj).1.2, fun j hj => ?_, fun j hj => ?_⟩
    · have := (hq j hj).2.1
      rw [add_at] at this
      exact this
    · have := (hq j hj).2.2
      rw [add_at] at this
      exact this

end Go.Proofs.Qxb6607685a
