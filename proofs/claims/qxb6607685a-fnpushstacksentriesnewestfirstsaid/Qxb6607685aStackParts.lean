/-
  FnPushStacksEntriesNewestFirst: what lies outside the walk.
-/
import Derived.Test.Qxb6607685aPush
import Derived.Laws.MakeOwn
namespace Go.Proofs.Qxb6607685a
open Go Go.RowKit

/-- The head behind k pushes. -/
def hdOf (head n : Nat) : Nat → Nat
  | 0 => head
  | k + 1 => n + k + 1
/-- The first k links filled in, the others nought. -/
def filled (En Rs : Nat → Nat) (n k : Nat) : List (Int × Int) := (List.range n).map fun j => if j < k then ((En j : Int), (Rs j : Int)) else (0, 0)
/-- The links behind k pushes. -/
def stacked (En Rs Es : Nat → Nat) (head n k : Nat) : List (Int × Int) := filled En Rs n n ++ (List.range k).map fun j => ((Es j : Int), (hdOf head n j : Int))

theorem filled_length (En Rs : Nat → Nat) (n k : Nat) : (filled En Rs n k).length = n := by simp [filled]
theorem filled_zero (En Rs : Nat → Nat) (n : Nat) : filled En Rs n 0 = List.replicate n (0, 0) := by
  apply List.ext_getElem?
  intro j
  rcases Nat.lt_or_ge j n with h | h
  · simp [filled, h]
  · simp [filled, Nat.not_lt.2 h]
theorem filled_set (En Rs : Nat → Nat) (n k : Nat) : (filled En Rs n k).set k ((En k : Int), (Rs k : Int)) = filled En Rs n (k + 1) := by
  apply List.ext_getElem?
  intro j
  rw [List.getElem?_set]
  rcases Nat.lt_or_ge j n with h | h
  · by_cases e : k = j
    · subst e
      simp [filled, h]
    · rw [if_neg e]
      by_cases hj : j < k
      · have h2 : j < k + 1 := by omega
        simp [filled, h, hj, h2]
      · have h2 : ¬ j < k + 1 := by omega
        simp [filled, h, hj, h2]
  · by_cases e : k = j
    · subst e
      simp [filled, Nat.not_lt.2 h]
    · simp [filled, e, h]
theorem filled_at (En Rs : Nat → Nat) (n j : Nat) (h : j < n) : (filled En Rs n n).getD j (0, 0) = ((En j : Int), (Rs j : Int)) := by
  simp [filled, List.getD_eq_getElem?_getD, h]
theorem stacked_length (En Rs Es : Nat → Nat) (head n k : Nat) : (stacked En Rs Es head n k).length = n + k := by simp [stacked, filled_length]
theorem stacked_zero (En Rs Es : Nat → Nat) (head n : Nat) : stacked En Rs Es head n 0 = filled En Rs n n := by simp [stacked]
theorem stacked_succ (En Rs Es : Nat → Nat) (head n k : Nat) : stacked En Rs Es head n (k + 1) = stacked En Rs Es head n k ++ [((Es k : Int), (hdOf head n k : Int))] := by
  simp [stacked, List.range_succ]
theorem stacked_old (En Rs Es : Nat → Nat) (head n k j : Nat) (h : j < n) : (stacked En Rs Es head n k).getD j (0, 0) = ((En j : Int), (Rs j : Int)) := by
  rw [← filled_at En Rs n j h]
  simp [stacked, List.getD_eq_getElem?_getD, List.getElem?_append, filled_length, h]
theorem stacked_new (En Rs Es : Nat → Nat) (head n k j : Nat) (h : j < k) : (stacked En Rs Es head n k).getD (n + j) (0, 0) = ((Es j : Int), (hdOf head n j : Int)) := by
  simp [stacked, List.getD_eq_getElem?_getD, filled_length, h]

/-- make's cells. -/
theorem made_flat (n : Nat) : (madeCells #[.int .u32 0, .int .u32 0] (n * 2)).toList = flat (List.replicate n (0, 0)) := by
  apply List.ext_getElem?
  intro j
  rcases Nat.lt_or_ge j (n * 2) with h | h
  · have e1 : (madeCells #[.int .u32 0, .int .u32 0] (n * 2)).toList[j]? = some (.int .u32 0) := by
      have hm : j % 2 = 0 ∨ j % 2 = 1 := by omega
      rcases hm with hm | hm <;> simp [madeCells, h, hm]
    rw [e1]
    have hm : j = j / 2 * 2 ∨ j = j / 2 * 2 + 1 := by omega
    rcases hm with hm | hm
    · rw [hm, flat_fst _ _ (by simp; omega)]
      have hq : j / 2 < n := by omega
      simp [List.getD_eq_getElem?_getD, hq]
    · rw [hm, flat_snd _ _ (by simp; omega)]
      have hq : j / 2 < n := by omega
      simp [List.getD_eq_getElem?_getD, hq]
  · rw [List.getElem?_eq_none (by simp [size_madeCells]; omega), List.getElem?_eq_none (by simp [flat_length]; omega)]

theorem make_any (n : Nat) (w : World) (hn : n ≤ 65536) : ∃ Z : Array Value, Z.toList = flat (List.replicate n (0, 0)) ∧ Z.size = n * 2 ∧
    (Instr.makeSlice 27 (.int .i64 n) (.int .i64 n)).run Try.prog w = .ok (.slice (some ⟨w.heap.size, 0, none⟩) n n) (w.alloc (.cells Z 29)) := by
  obtain ⟨i0, hi, hz0, hz1, hz2⟩ := parts29
  refine ⟨madeCells #[.int .u32 0, .int .u32 0] (n * 2), made_flat n, size_madeCells _ _, ?_⟩
  have := run_make w 27 29 i0 _ Try.underlying27 hi hz0 .i64 .i64 (n : Int) (n : Int) (by omega) (by omega) (by rw [hz2]; omega) (by omega)
  rw [hz1] at this
  simpa [Value.cells] using this

/-- A cell's value; whatever, where there is no such cell. -/
def cellOf (W : World) (a : Addr) : Value := (W.cell? a).getD undef

/-- 'W is a with new blocks and with writes to block B alone, a row of M cells that may be written.' -/
def Fr (B M : Nat) (a W : World) : Prop := Kept [B] a W ∧ ∃ cs : Array Value, W.heap[B]? = some (.cells cs 29 (0, 0)) ∧ cs.size = M
theorem Fr.drew {B M : Nat} {a W : World} (h : Fr B M a W) : Fr B M a W.drew := ⟨h.1.drew, h.2⟩
theorem Fr.next {B M : Nat} {a W W' : World} (h : Fr B M a W) (k : Kept [] W W') : Fr B M a W' := by
  obtain ⟨h1, cs, h2, h3⟩ := h
  exact ⟨h1.trans (k.mono (by simp)), cs, k.lies h2 (by simp), h3⟩
theorem Fr.set {B M : Nat} {a W : World} (h : Fr B M a W) (j : Nat) (u : Value) : Fr B M a (W.setCell ⟨B, j, none⟩ u) := by
  obtain ⟨h1, cs, h2, h3⟩ := h
  exact ⟨h1.setCell (Or.inl (by simp)) u, _, block_setCell u h2, by simpa using h3⟩
theorem Fr.free {B M : Nat} {a W : World} (h : Fr B M a W) (j : Nat) : W.frozen? ⟨B, j, none⟩ = false := by
  obtain ⟨_, cs, h2, _⟩ := h
  exact free_at h2
theorem Fr.there {B M : Nat} {a W : World} (h : Fr B M a W) (j : Nat) (hj : j < M) : W.cell? ⟨B, j, none⟩ = some (cellOf W ⟨B, j, none⟩) := by
  obtain ⟨_, cs, h2, h3⟩ := h
  have h4 : cs[j]? = some cs[j] := Array.getElem?_eq_getElem (by omega)
  have h5 := cell_at (o := j) h2 h4
  unfold cellOf
  rw [h5]
  rfl

theorem linkOf_any (x y : Int) (w : World) : Calls Try.prog 11 #[.int .u32 x, .int .u32 y] w fun e w' => e = .returned (.agg #[.int .u32 x, .int .u32 y]) ∧ Kept [] w w' := by
  go_enter Try.func11, Try.ntmps11
  go_wp2
  exact bodyPost_ret (v := .agg #[.int .u32 x, .int .u32 y]) (by simp [results, Try.results11, go_sem]) rfl ⟨rfl, (Kept.refl _ _).alloc _⟩

theorem bytes10_long (ao bo : Option Addr) (n c m d : Nat) (h : Int) (w : World) (hl : 1048576 < n + m) :
    Calls Try.prog 10 #[.slice ao n c, .int .u32 h, .slice bo m d] w fun e w' => e = .returned (.bool false) ∧ w = w' := by
  rcases Nat.lt_or_ge 1048576 n with h1 | h1
  · go_enter Try.func10, Try.ntmps10
    go_wp2
    go_ret
    exact ⟨rfl, rfl⟩
  · rcases Nat.lt_or_ge 1048576 m with h2 | h2
    · go_enter Try.func10, Try.ntmps10
      go_wp2
      go_ret
      exact ⟨rfl, rfl⟩
    · go_enter Try.func10, Try.ntmps10
      go_wp2
      go_ret
      exact ⟨rfl, rfl⟩
theorem bytes10_ok (ao bo : Option Addr) (n c m d : Nat) (h : Int) (w : World) (hl : n + m ≤ 1048576) :
    Calls Try.prog 10 #[.slice ao n c, .int .u32 h, .slice bo m d] w fun e w' => e = .returned (.bool true) ∧ w = w' := by
  go_enter Try.func10, Try.ntmps10
  go_wp2
  go_ret
  exact ⟨rfl, rfl⟩

end Go.Proofs.Qxb6607685a
