/-
  'push' and 'linkAt' by their contracts. 'Inv w b B L': the variable in block B holds a slice that owns the links L in a block of its own, from block b on.
-/
import Derived.Test.Qxb6607685aRows
import Derived.Test.Qxb6607685aKept
import Derived.Deep.AppendLies
import Derived.BigQuiet
namespace Go.Proofs.Qxb6607685a
open Go Go.RowKit

/-- The links' cells, one behind the other. -/
def flat : List (Int × Int) → List Value
  | [] => []
  | p :: t => .int .u32 p.1 :: .int .u32 p.2 :: flat t

theorem flat_length : ∀ L, (flat L).length = L.length * 2
  | [] => rfl
  | _ :: t => by simp [flat, flat_length t]; omega
theorem flat_append : ∀ L M, flat (L ++ M) = flat L ++ flat M
  | [], _ => rfl
  | _ :: t, M => by simp [flat, flat_append t M]
theorem flat_fst : ∀ (L : List (Int × Int)) (i : Nat), i < L.length → (flat L)[i * 2]? = some (.int .u32 (L.getD i (0, 0)).1)
  | _ :: _, 0, _ => by simp [flat]
  | _ :: t, i + 1, h => by
    have := flat_fst t i (by simpa using h)
    simpa [flat, Nat.add_mul] using this
theorem flat_snd : ∀ (L : List (Int × Int)) (i : Nat), i < L.length → (flat L)[i * 2 + 1]? = some (.int .u32 (L.getD i (0, 0)).2)
  | _ :: _, 0, _ => by simp [flat]
  | _ :: t, i + 1, h => by
    have := flat_snd t i (by simpa using h)
    simpa [flat, Nat.add_mul] using this
theorem flat_set : ∀ (L : List (Int × Int)) (i : Nat) (p : Int × Int), ((flat L).set (i * 2) (.int .u32 p.1)).set (i * 2 + 1) (.int .u32 p.2) = flat (L.set i p)
  | [], _, _ => by simp [flat]
  | _ :: _, 0, _ => by simp [flat]
  | _ :: t, i + 1, p => by
    have := flat_set t i p
    have e1 : (i + 1) * 2 = i * 2 + 1 + 1 := by omega
    simp [flat, e1, this]

def Inv (w : World) (b B : Nat) (L : List (Int × Int)) : Prop :=
  ∃ v, w.heap[B]? = some (.cells #[v] 27 (0, 0)) ∧ v.ownBlock ≠ some B ∧ w.ownsRow b 29 2 v L.length (flat L)

theorem Inv.kept {w w' : World} {b B : Nat} {L : List (Int × Int)} (h : Inv w b B L) (hk : Kept [] w w') : Inv w' b B L := by
  obtain ⟨v, h1, h2, h3⟩ := h
  exact ⟨v, hk.lies h1 (by simp), h2, h3.kept (row := none) ⟨hk.os, hk.tape, hk.output, hk.size, fun k hk' _ => hk.block k hk' (by simp)⟩ (by cases v.ownBlock <;> simp)⟩

theorem info29 : (Try.prog.info? 29).map (fun i => (i.zero, i.size, i.bytes)) = some (some (.agg #[.int .u32 0, .int .u32 0]), 2, 8) := by kernel_rfl
theorem parts29 : ∃ i, Try.prog.info? 29 = some i ∧ i.zero = some (.agg #[.int .u32 0, .int .u32 0]) ∧ i.size = 2 ∧ i.bytes = 8 := by
  have h := info29
  cases hi : Try.prog.info? 29 with
  | none => rw [hi] at h; cases h
  | some i =>
    rw [hi] at h
    simp at h
    exact ⟨i, rfl, h.1, h.2.1, h.2.2⟩

/-- What the links' variable is behind a push. -/
theorem inv_push {w w1 w2 : World} {b B g cap : Nat} {L : List (Int × Int)} {v : Value} {en hd : Int} (hbB : b ≤ B) (hB : w.heap[B]? = some (.cells #[v] 27 (0, 0))) (hvB : v.ownBlock ≠ some B)
    (hw1 : Kept [] w w1) (hs1 : w1.heap.size = w.heap.size + 1)
    (hrow : w1.ownsRow b 29 2 v L.length (flat L))
    (hown : w2.ownsRow b 29 2 (.slice (some ⟨g, 0, none⟩) (L.length + 1) cap) (L.length + 1) (flat L ++ [.int .u32 en, .int .u32 hd])) (hgrow : w1.grownBy w2 v.ownBlock) (hat : v.ownBlock = some g ∨ g = w.heap.size + 1) :
    Inv (w2.setCell ⟨B, 0, none⟩ (.slice (some ⟨g, 0, none⟩) (L.length + 1) cap)) b B (L ++ [(en, hd)]) ∧ Below b w (w2.setCell ⟨B, 0, none⟩ (.slice (some ⟨g, 0, none⟩) (L.length + 1) cap)) := by
  have hltB := lt_of_block hB
  have hgB : g ≠ B := by
    rcases hat with h | h
    · intro e; exact hvB (by rw [h, e])
    · omega
  have hB2 : w2.heap[B]? = some (.cells #[v] 27 (0, 0)) := by
    rw [hgrow.block B (by omega) (fun e => hvB e.symm)]
    exact hw1.lies hB (by simp)
  refine ⟨⟨.slice (some ⟨g, 0, none⟩) (L.length + 1) cap, ?_, ?_, ?_⟩, ?_⟩
  · simpa using block_setCell (o := 0) (.slice (some ⟨g, 0, none⟩) (L.length + 1) cap) hB2
  · simp [Value.ownBlock, hgB]
  · have e1 : (L ++ [(en, hd)]).length = L.length + 1 := by simp
    rw [e1, flat_append]
    exact hown.kept (row := some B) ⟨rfl, rfl, rfl, by simp [World.setCell], fun k _ hk => Below.heap_setCell _ _ _ _ (fun e => hk (by simp [e]))⟩ (Or.inr (by simp [Value.ownBlock, hgB]))
  · have hbw : b ≤ w.heap.size := by omega
    have b1 : Below b w w1 := hw1.toBelow (by simp) hbw
    exact (b1.grown hgrow (by omega) (fun k hk => (hrow.lt k hk).1)).setCell hbB _

set_option maxHeartbeats 400000 in
theorem push_any (b B : Nat) (L : List (Int × Int)) (hd en : Int) (w : World) (hbB : b ≤ B) (hlen : L.length < 2097152) (hI : Inv w b B L) :
    Calls Try.prog 32 #[.pointer (some ⟨B, 0, none⟩), .int .u32 hd, .int .u32 en] w fun e w' => e = .returned (.int .u32 (L.length + 1)) ∧ Inv w' b B (L ++ [(en, hd)]) ∧ Below b w w' := by
  obtain ⟨i0, hi, hz0, hz1, hz2⟩ := parts29
  obtain ⟨v, hB, hvB, hrow⟩ := hI
  have hltB := lt_of_block hB
  have HB : Hid (w.heap[B]? = some (.cells #[v] 27 (0, 0))) := hB
  have hc := cell_at (o := 0) hB rfl
  have hf := free_at (o := 0) hB
  clear hB
  go_enter Try.func32, Try.ntmps32
  go_wp2_with (first
    | (at_builtin; refine wpList_append_lies _ (by rfl) (.tmp 10) (.tmp 14) 27 (by rfl) b 29 i0 _ 2 8 Try.underlying27 hi hz0 hz1 hz2 (by rfl) (by decide) v L.length (flat L) (by rfl) (hrow.alloc _) ⟨w.heap.size, 0, none⟩ 1 1 [.int .u32 en, .int .u32 hd] (by rfl) (by rfl) ?c1 ?c2 ?c3 ?c4 ?c5 ?c6 (w.heap.size + 1) ?c7 ?_)
    | go_in)
  case c1 =>
    exact World.news_of_block (cs := #[.int .u32 en, .int .u32 hd]) (block_new w _)
  case c2 => intro u hu; simp at hu; rcases hu with rfl | rfl <;> rfl
  case c3 => decide
  case c4 => unfold maxLen; omega
  case c5 => omega
  case c6 => simp; omega
  case c7 => simp
  · intro g cap w1 hown hgrow hat hlt
    have hk : Kept [] w (w.alloc (.cells #[.int .u32 en, .int .u32 hd] 29)) := (Kept.refl [] w).alloc _
    have HP : Hid (Inv (w1.setCell ⟨B, 0, none⟩ (.slice (some ⟨g, 0, none⟩) (L.length + 1) cap)) b B (L ++ [(en, hd)]) ∧ Below b w (w1.setCell ⟨B, 0, none⟩ (.slice (some ⟨g, 0, none⟩) (L.length + 1) cap))) :=
      inv_push hbB HB.out hvB hk (by simp) (hrow.alloc _) hown hgrow hat
    have hB2 : w1.heap[B]? = some (.cells #[v] 27 (0, 0)) := by
      rw [hgrow.block B (by simp; omega) (fun e => hvB e.symm)]
      exact hk.lies HB.out (by simp)
    have hc2 := cell_at (o := 0) hB2 rfl
    have hf2 := free_at (o := 0) hB2
    clear hB2 hown hgrow hat hlt hk hrow hvB hc hf HB
    go_wp2
    go_ret
    exact ⟨ret_int (by simp), HP.out.1, HP.out.2⟩

theorem zzpush_any (b B : Nat) (L : List (Int × Int)) (hd en : Int) (w : World) (hbB : b ≤ B) (hlen : L.length < 2097152) (hI : Inv w b B L) :
    Calls Try.prog 12 #[.pointer (some ⟨B, 0, none⟩), .int .u32 hd, .int .u32 en] w fun e w' => e = .returned (.int .u32 (L.length + 1)) ∧ Inv w' b B (L ++ [(en, hd)]) ∧ Below b w w' := by
  have HI : Hid (Inv w b B L) := hI
  clear hI
  go_enter Try.func12, Try.ntmps12
  go_wp2_with fail
  refine (push_any b B L hd en _ hbB hlen (by exact HI.out)).mono ?_
  rintro e w1 ⟨rfl, h1, h2⟩
  have HP : Hid (Inv w1 b B (L ++ [(en, hd)]) ∧ Below b w w1) := ⟨h1, h2⟩
  clear h1 h2
  go_wp2
  go_ret
  exact ⟨rfl, HP.out.1, HP.out.2⟩

theorem linkAt_any (b g cap n : Nat) (L : List (Int × Int)) (i : Nat) (w : World) (hi : i < n) (hn : n = L.length) (hrow : w.ownsRow b 29 2 (.slice (some ⟨g, 0, none⟩) n cap) n (flat L)) :
    Calls Try.prog 13 #[.slice (some ⟨g, 0, none⟩) n cap, .int .i64 i] w fun e w' => e = .returned (.tuple #[.int .u32 (L.getD i (0, 0)).1, .int .u32 (L.getD i (0, 0)).2]) ∧ Kept [] w w' := by
  have c0 : w.cell? ⟨g, i * 2, none⟩ = some (.int .u32 (L.getD i (0, 0)).1) := by
    rw [hrow.cellAt (i * 2) (by omega)]
    exact flat_fst L i (by omega)
  have c1 : w.cell? ⟨g, i * 2 + 1, none⟩ = some (.int .u32 (L.getD i (0, 0)).2) := by
    rw [hrow.cellAt (i * 2 + 1) (by omega)]
    exact flat_snd L i (by omega)
  clear hrow
  generalize (L.getD i (0, 0)).1 = x at *
  generalize (L.getD i (0, 0)).2 = y at *
  clear hn
  go_enter Try.func13, Try.ntmps13
  go_wp2
  go_quiet (fail)
  go_wp2
  go_ret2
  exact ⟨rfl, (Kept.refl _ _).drewN _⟩

end Go.Proofs.Qxb6607685a
