/-
  (*bytes.Reader).Read, by two contracts: at the end of its bytes; ahead of it.
-/
import Derived.Test.Qxb6614263aFmtErrorf
namespace Go.Proofs.Qxb6614263aFmt
open Go Go.RowKit Go.Extern.Stop Go.Stop Go.Extern
set_option linter.unusedVariables false

/-- io.EOF is what the variable holds. -/
theorem read_eof (R : Nat) (ao : Option Addr) (n c : Nat) (p : Int) (bo : Option Addr) (l d : Nat) (a2 : Addr) (w : World) (hn : n ≤ 1048576)
    (hR : w.heap[R]? = some (.cells #[.slice ao n c, .int .i64 n, .int .i64 p] 42 (0, 0)))
    (hE : w.cell? ⟨2, 0, none⟩ = some (.iface 58 (.pointer (some a2)))) :
    Calls Tryf.prog 36 #[.pointer (some ⟨R, 0, none⟩), .slice bo l d] w fun e w' => e = .returned (.tuple #[.int .i64 0, .iface 58 (.pointer (some a2))]) ∧ ∃ q, w' = w.drewN q := by
  have c0 : w.cell? ⟨R, 0, none⟩ = some (.slice ao n c) := cell_at hR rfl
  have c1 : w.cell? ⟨R, 1, none⟩ = some (.int .i64 n) := cell_at hR rfl
  clear hR
  go_enter Tryf.func36, Tryf.ntmps36
  go_wp2_with (go_quiet (fail))
  go_ret2
  exact ⟨rfl, _, World.drewN_drewN _ _ _⟩

theorem size5 : (Tryf.prog.info? 5).map (·.size) = some 1 := by kernel_rfl

set_option maxHeartbeats 400000 in
theorem read_some (R g b i n : Nat) (xs : List Int) (p : Int) (cur X : List Value) (w : World) (hn : xs.length = n) (hlt : i < n) (hxs : n ≤ 1048576) (hcur : cur.length = 9) (hRb : R < b) (hgb : g < b) (hRg : R ≠ g)
    (hX : Hid (X = ((xs.drop i).take 9).map (Value.int .u8)))
    (hR : w.heap[R]? = some (.cells #[.slice (some ⟨g, 0, none⟩) n n, .int .i64 i, .int .i64 p] 42 (0, 0)))
    (hg : w.heap[g]? = some (.cells (xs.map (Value.int .u8)).toArray 5 (0, 0)))
    (hb : w.heap[b]? = some (.cells cur.toArray 45 (0, 0))) (hz : w.heap.size = b + 1) :
    Calls Tryf.prog 36 #[.pointer (some ⟨R, 0, none⟩), .slice (some ⟨b, 0, none⟩) 9 9] w fun e w' =>
      e = .returned (.tuple #[.int .i64 X.length, .nilIface]) ∧ w'.heap[b]? = some (.cells (splice cur 0 X).toArray 45 (0, 0)) ∧
      w'.heap[R]? = some (.cells #[.slice (some ⟨g, 0, none⟩) n n, .int .i64 ((i : Int) + X.length), .int .i64 (-1)] 42 (0, 0)) ∧ Kept [R, b] w w' := by
  have c0 : w.cell? ⟨R, 0, none⟩ = some (.slice (some ⟨g, 0, none⟩) n n) := cell_at hR rfl
  have c1 : w.cell? ⟨R, 1, none⟩ = some (.int .i64 i) := cell_at hR rfl
  have c2 : w.cell? ⟨R, 2, none⟩ = some (.int .i64 p) := cell_at hR rfl
  have f1 : w.frozen? ⟨R, 1, none⟩ = false := free_at hR
  have f2 : w.frozen? ⟨R, 2, none⟩ = false := free_at hR
  have hXl : Hid (X.length = Nat.min (n - i) 9) := by show _ = _; rw [hX.out]; simp only [List.length_map, List.length_take, List.length_drop, hn]; exact Nat.min_comm _ _
  have hX9 : X.length ≤ 9 := by rw [hXl.out]; exact Nat.min_le_right _ _
  have hX1 : ∀ v ∈ X, v.oneCell' = true := by
    rw [hX.out]; intro v hv; simp only [List.mem_map] at hv; obtain ⟨z, _, rfl⟩ := hv; rfl
  have hfit : 0 + X.length ≤ cur.length := by omega
  have hgb' : Hid (∀ W : World, Kept [R] w W → W.heap[b]? = some (.cells cur.toArray 45 (0, 0))) := fun W k => k.lies hb (by simp; omega)
  have hsrc : Hid (∀ W : World, Kept [R] w W → ∀ j v, X[j]? = some v → W.cell? ((⟨g, i, none⟩ : Addr).add j) = some v) := by
    intro W k j v hj
    have e := k.lies hg (by simp; omega)
    rw [add_at]
    refine cell_at e ?_
    rw [hX.out] at hj
    simp only [List.getElem?_map, List.getElem?_take, List.getElem?_drop] at hj
    simp only [List.getElem?_toArray, List.getElem?_map]
    split at hj
    · exact hj
    · simp at hj
  have HR : Hid (w.heap[R]? = some (.cells #[.slice (some ⟨g, 0, none⟩) n n, .int .i64 i, .int .i64 p] 42 (0, 0))) := hR
  have HX1 : Hid (∀ v ∈ X, v.oneCell' = true) := hX1
  have HZ : Hid (∀ k, b ≤ k → k < w.heap.size → k ∈ [R, b]) := fun k h1 h2 => by
    obtain rfl : k = b := by omega
    simp
  clear hR hg hb hX1 hz hn
  have hne : ¬ n = i := by omega
  have hin : i ≤ n := by omega
  go_enter Tryf.func36, Tryf.ntmps36
  go_wp2_with (go_quiet (fail))
  go_region_law (refine step_copy_splice rfl (.tmp 20) (.tmp 29) 22 22 rfl 5 Tryf.underlying22 size5 _ _ _ _ _ _ rfl rfl b 0 cur 45 (hgb'.out _ (by repeat (first | exact Kept.refl _ _ | apply Kept.drewN | apply Kept.drew | refine Kept.setCell ?_ (Or.inl (by simp)) _))) X (by exact hXl.out) (fun _ => ⟨rfl, _, rfl, hsrc.out _ (by repeat (first | exact Kept.refl _ _ | apply Kept.drewN | apply Kept.drew | refine Kept.setCell ?_ (Or.inl (by simp)) _))⟩) hfit HX1.out b _ (Below.refl _ _) (Nat.le_refl _) ?_; intro w4 hg4 hb4)
  all_goals
    have HR4 : Hid (w4.heap[R]? = some (.cells #[.slice (some ⟨g, 0, none⟩) n n, .int .i64 i, .int .i64 (-1)] 42 (0, 0))) := (hb4.block R hRb).trans (set_two (w := w.drewN nq) (.int .i64 (-1)) HR.out)
    have HK : Hid (Kept [R, b] w w4) := Kept.below (b := b) (by repeat (first | exact Kept.refl _ _ | apply Kept.drewN | apply Kept.drew | refine Kept.setCell ?_ (Or.inl (by simp)) _)) hb4 HZ.out
    have d1 : w4.cell? ⟨R, 1, none⟩ = some (.int .i64 i) := cell_at HR4.out rfl
    have g1 : w4.frozen? ⟨R, 1, none⟩ = false := free_at HR4.out
    clear hb4
    go_wp2
    go_ret2
    exact ⟨rfl, (Below.heap_setCell _ _ _ _ (by show b ≠ R; omega)).trans hg4.out, set_one _ HR4.out, HK.out.setCell (Or.inl (by simp)) _⟩

end Go.Proofs.Qxb6614263aFmt
