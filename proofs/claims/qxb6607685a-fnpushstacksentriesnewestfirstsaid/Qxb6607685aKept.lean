/-
  No dump here. 'Kept S w w'': w' is w with new blocks and with writes to the blocks on the list S alone. Small laws on blocks and cells.
-/
import Derived.WalkKit
import Derived.Below
import Derived.OneCell
import Derived.Deep.Draws

import Derived.OpenShut
namespace Go.Proofs.Qxb6607685a
open Go Go.RowKit

structure Kept (S : List Nat) (w w' : World) : Prop where
  os : w'.os = w.os
  tape : w'.tape = w.tape
  output : w'.output = w.output
  size : w.heap.size ≤ w'.heap.size
  block : ∀ k, k < w.heap.size → k ∉ S → w'.heap[k]? = w.heap[k]?

theorem Kept.refl (S : List Nat) (w : World) : Kept S w w := ⟨rfl, rfl, rfl, Nat.le_refl _, fun _ _ _ => rfl⟩
theorem Kept.trans {S : List Nat} {a b c : World} (h : Kept S a b) (k : Kept S b c) : Kept S a c :=
  ⟨k.os.trans h.os, k.tape.trans h.tape, k.output.trans h.output, Nat.le_trans h.size k.size, fun i hi hn => (k.block i (Nat.lt_of_lt_of_le hi h.size) hn).trans (h.block i hi hn)⟩
/-- A block of the list that is new since 'w' may be struck from it. -/
theorem Kept.mono {S S' : List Nat} {w w' : World} (h : Kept S w w') (hS : ∀ k ∈ S, k ∈ S' ∨ w.heap.size ≤ k) : Kept S' w w' :=
  ⟨h.os, h.tape, h.output, h.size, fun k hk hn => h.block k hk fun hm => (hS k hm).elim hn (fun h1 => by omega)⟩
theorem Kept.drew {S : List Nat} {a w : World} (h : Kept S a w) : Kept S a w.drew := ⟨h.os, h.tape, h.output, h.size, h.block⟩
theorem Kept.drewN {S : List Nat} {a w : World} (h : Kept S a w) (n : Nat) : Kept S a (w.drewN n) := ⟨h.os, h.tape, h.output, h.size, h.block⟩
theorem Kept.alloc {S : List Nat} {a w : World} (h : Kept S a w) (o : Obj) : Kept S a (w.alloc o) :=
  h.trans ⟨rfl, rfl, rfl, by simp, fun k hk _ => Below.heap_alloc _ _ _ hk⟩
theorem Kept.setCell {S : List Nat} {a w : World} (h : Kept S a w) {p : Addr} (hp : p.block ∈ S ∨ a.heap.size ≤ p.block) (u : Value) : Kept S a (w.setCell p u) :=
  ⟨h.os, h.tape, h.output, by have := h.size; simpa [World.setCell] using this, fun k hk hn => by
    have hne : k ≠ p.block := by
      intro e
      subst e
      rcases hp with h1 | h1
      · exact hn h1
      · omega
    rw [Below.heap_setCell _ _ _ _ hne]
    exact h.block k hk hn⟩
/-- 'Below b', where b is the last block: all but b and what is new stays. -/
theorem Kept.below {S : List Nat} {a w w' : World} {b : Nat} (h : Kept S a w) (hb : Below b w w') (hS : ∀ k, b ≤ k → k < a.heap.size → k ∈ S) : Kept S a w' :=
  ⟨hb.os.trans h.os, hb.tape.trans h.tape, hb.output.trans h.output, Nat.le_trans h.size hb.size, fun k hk hn => by
    have hkb : k < b := by
      rcases Nat.lt_or_ge k b with h1 | h1
      · exact h1
      · exact absurd (hS k h1 hk) hn
    rw [hb.block k hkb]
    exact h.block k hk hn⟩
theorem Kept.toBelow {S : List Nat} {w w' : World} {B : Nat} (h : Kept S w w') (hS : ∀ k ∈ S, B ≤ k) (hB : B ≤ w.heap.size) : Below B w w' :=
  ⟨h.os, h.tape, h.output, h.size, fun k hk => h.block k (by omega) fun hm => by have := hS k hm; omega⟩
theorem Kept.cell {S : List Nat} {w w' : World} (h : Kept S w w') {p : Addr} {v : Value} (hv : w.cell? p = some v) (hn : p.block ∉ S) : w'.cell? p = some v := by
  have hlt : p.block < w.heap.size := by
    rcases Nat.lt_or_ge p.block w.heap.size with h' | h'
    · exact h'
    · simp [World.cell?, Array.getElem?_eq_none h'] at hv
  rw [World.cell?_of_block (w := w) (h.block p.block hlt hn)]
  exact hv
theorem Kept.lies {S : List Nat} {w w' : World} (h : Kept S w w') {k : Nat} {o : Obj} (hv : w.heap[k]? = some o) (hn : k ∉ S) : w'.heap[k]? = some o := by
  rw [h.block k (lt_of_block hv) hn]
  exact hv

theorem cell_at {w : World} {g o : Nat} {c : Array Value} {t : TypeId} {v : Value} (h : w.heap[g]? = some (.cells c t (0, 0))) (hv : c[o]? = some v) : w.cell? ⟨g, o, none⟩ = some v := by simp [World.cell?, h, hv]
theorem free_at {w : World} {g o : Nat} {c : Array Value} {t : TypeId} (h : w.heap[g]? = some (.cells c t (0, 0))) : w.frozen? ⟨g, o, none⟩ = false := by simp [World.frozen?, h]
theorem block_setCell {w : World} {g o : Nat} {c : Array Value} {t : TypeId} {r : Nat × Nat} (u : Value) (h : w.heap[g]? = some (.cells c t r)) :
    (w.setCell ⟨g, o, none⟩ u).heap[g]? = some (.cells (c.setIfInBounds o u) t r) := by
  have hlt := lt_of_block h
  have h' : w.heap[g] = .cells c t r := by simpa [Array.getElem?_eq_getElem hlt] using h
  show (w.heap.modify g _)[g]? = _
  rw [Array.getElem?_modify]
  simp [h]
theorem set_two {w : World} {R : Nat} {v0 v1 v2 : Value} {t : TypeId} {r : Nat × Nat} (u : Value) (h : w.heap[R]? = some (.cells #[v0, v1, v2] t r)) : (w.setCell ⟨R, 2, none⟩ u).heap[R]? = some (.cells #[v0, v1, u] t r) := by
  simpa using block_setCell (o := 2) u h
theorem set_one {w : World} {R : Nat} {v0 v1 v2 : Value} {t : TypeId} {r : Nat × Nat} (u : Value) (h : w.heap[R]? = some (.cells #[v0, v1, v2] t r)) : (w.setCell ⟨R, 1, none⟩ u).heap[R]? = some (.cells #[v0, u, v2] t r) := by
  simpa using block_setCell (o := 1) u h
theorem set3_other (w : World) (N R : Nat) (u0 u1 u2 : Value) (h : R ≠ N) : (((w.setCell ⟨N, 0, none⟩ u0).setCell ⟨N, 1, none⟩ u1).setCell ⟨N, 2, none⟩ u2).heap[R]? = w.heap[R]? := by
  rw [Below.heap_setCell _ _ _ _ h, Below.heap_setCell _ _ _ _ h, Below.heap_setCell _ _ _ _ h]
theorem Kept.set3 {S : List Nat} {a w : World} (h : Kept S a w) (N : Nat) (u0 u1 u2 : Value) (hN : a.heap.size ≤ N) : Kept S a (((w.setCell ⟨N, 0, none⟩ u0).setCell ⟨N, 1, none⟩ u1).setCell ⟨N, 2, none⟩ u2) :=
  ((h.setCell (Or.inr hN) u0).setCell (Or.inr hN) u1).setCell (Or.inr hN) u2
theorem add_at (b off i : Nat) : (⟨b, off, none⟩ : Addr).add i = ⟨b, off + i, none⟩ := by
  unfold Addr.add
  split <;> simp_all
theorem block_new (w : World) (o : Obj) : (w.alloc o).heap[w.heap.size]? = some o := by
  show (w.heap.push o)[w.heap.size]? = _
  simp

theorem ret_int {k : IntKind} {a b : Int} (h : a = b) : Ending.returned (.int k a) = .returned (.int k b) := by rw [h]

end Go.Proofs.Qxb6607685a
