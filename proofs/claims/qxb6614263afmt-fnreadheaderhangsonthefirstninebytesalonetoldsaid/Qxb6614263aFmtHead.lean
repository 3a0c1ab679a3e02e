/-
  readHeader over a *bytes.Reader.
-/
import Derived.Test.Qxb6614263aFmtFull
import Derived.Deep.RegionHeld3
import Derived.Deep.DrawnRows
namespace Go.Proofs.Qxb6614263aFmt
open Go Go.RowKit Go.Extern.Stop Go.Stop Go.Extern
set_option linter.unusedVariables false

def nine : List Value := [.int .u8 0, .int .u8 0, .int .u8 0, .int .u8 0, .int .u8 0, .int .u8 0, .int .u8 0, .int .u8 0, .int .u8 0]

set_option maxHeartbeats 400000 in
theorem head_none (R : Nat) (ao : Option Addr) (n : Nat) (p : Int) (a2 : Addr) (w : World) (hn : n ≤ 1048576) (h3R : 3 < R)
    (hR : w.heap[R]? = some (.cells #[.slice ao n n, .int .i64 n, .int .i64 p] 42 (0, 0)))
    (hE : w.cell? ⟨2, 0, none⟩ = some (.iface 58 (.pointer (some a2)))) :
    Calls Tryf.prog 13 #[.iface 25 (.pointer (some ⟨R, 0, none⟩))] w fun e w' => e = .returned (.tuple #[.agg #[.int .u8 0, .int .u32 0, .int .i32 0], .iface 58 (.pointer (some a2))]) ∧ Kept [] w w' := by
  have HR : Hid (∀ W, Kept [] w W → W.heap[R]? = some (.cells #[.slice ao n n, .int .i64 n, .int .i64 p] 42 (0, 0))) := fun W k => k.lies hR (by simp)
  have HE : Hid (∀ W, Kept [] w W → W.cell? ⟨2, 0, none⟩ = some (.iface 58 (.pointer (some a2)))) := fun W k => k.cell hE (by simp)
  clear hR hE
  go_enter Tryf.func13, Tryf.ntmps13
  go_wp2_with (first | (go_at_call 18; refine (atLeast_none R _ ao n n p a2 _ hn (by exact HR.out _ (((Kept.refl _ _).alloc _).alloc _)) (by exact HE.out _ (((Kept.refl _ _).alloc _).alloc _))).mono ?_; rintro e w' ⟨rfl, q, rfl⟩) | (go_at_call 15; go_in))
  exact bodyPost_ret (v := .tuple #[.agg #[.int .u8 0, .int .u32 0, .int .i32 0], .iface 58 (.pointer (some a2))]) (by simp [results, Tryf.results13, go_sem]) rfl ⟨rfl, by repeat (first | exact Kept.refl _ _ | apply Kept.drewN | apply Kept.drew | apply Kept.alloc | refine Kept.setCell ?_ (Or.inr (by simp)) _)⟩

theorem size_two (w : World) (o1 o2 : Obj) : ((w.alloc o1).alloc o2).heap.size = w.heap.size + 1 + 1 := by simp
theorem block_first (w : World) (o1 o2 : Obj) : ((w.alloc o1).alloc o2).heap[w.heap.size]? = some o1 := by
  rw [Below.heap_alloc _ _ _ (by simp)]
  exact block_new w o1
theorem block_two (w : World) (o1 o2 : Obj) : ((w.alloc o1).alloc o2).heap[w.heap.size + 1]? = some o2 := by
  have h := block_new (w.alloc o1) o2
  have e : (w.alloc o1).heap.size = w.heap.size + 1 := by simp
  rw [e] at h
  exact h

set_option maxHeartbeats 400000 in
theorem head_some (R g i n : Nat) (xs : List Int) (p : Int) (a2 a3 : Addr) (w : World) (hn : xs.length = n) (hi : i < n) (hlt : n < i + 9) (hxs : n ≤ 1048576) (h3R : 3 < R) (hRg : R ≠ g)
    (hR : w.heap[R]? = some (.cells #[.slice (some ⟨g, 0, none⟩) n n, .int .i64 i, .int .i64 p] 42 (0, 0)))
    (hg : w.heap[g]? = some (.cells (xs.map (Value.int .u8)).toArray 5 (0, 0)))
    (hE : w.cell? ⟨2, 0, none⟩ = some (.iface 58 (.pointer (some a2)))) (hU : w.cell? ⟨3, 0, none⟩ = some (.iface 58 (.pointer (some a3)))) :
    Calls Tryf.prog 13 #[.iface 25 (.pointer (some ⟨R, 0, none⟩))] w fun e w' => e = .returned (.tuple #[.agg #[.int .u8 0, .int .u32 0, .int .i32 0], .iface 58 (.pointer (some a3))]) ∧
      w'.heap[R]? = some (.cells #[.slice (some ⟨g, 0, none⟩) n n, .int .i64 n, .int .i64 (-1)] 42 (0, 0)) ∧ Kept [R] w w' := by
  have hRb : R < w.heap.size + 1 := by have := lt_of_block hR; omega
  have hgb : g < w.heap.size + 1 := by have := lt_of_block hg; omega
  have HR : Hid (∀ W, Kept [] w W → W.heap[R]? = some (.cells #[.slice (some ⟨g, 0, none⟩) n n, .int .i64 i, .int .i64 p] 42 (0, 0))) := fun W k => k.lies hR (by simp)
  have Hg : Hid (∀ W, Kept [] w W → W.heap[g]? = some (.cells (xs.map (Value.int .u8)).toArray 5 (0, 0))) := fun W k => k.lies hg (by simp)
  have HE : Hid (∀ W, Kept [] w W → W.cell? ⟨2, 0, none⟩ = some (.iface 58 (.pointer (some a2)))) := fun W k => k.cell hE (by simp)
  have HU : Hid (∀ W, Kept [] w W → W.cell? ⟨3, 0, none⟩ = some (.iface 58 (.pointer (some a3)))) := fun W k => k.cell hU (by simp)
  have Hn : Hid (xs.length = n) := hn
  have hRlt : R < w.heap.size := lt_of_block hR
  clear hR hg hE hU hn
  go_enter Tryf.func13, Tryf.ntmps13
  go_wp2_with (first | (go_at_call 18; refine (atLeast_some R g (w.heap.size + 1) i n xs p nine _ a2 a3 _ Hn.out hi hlt hxs rfl h3R hRb hgb hRg rfl (by exact HR.out _ (((Kept.refl _ _).alloc _).alloc _)) (by exact Hg.out _ (((Kept.refl _ _).alloc _).alloc _)) (by exact block_two _ _ _) (by exact size_two _ _ _) (by exact HE.out _ (((Kept.refl _ _).alloc _).alloc _)) (by exact HU.out _ (((Kept.refl _ _).alloc _).alloc _))).mono ?_; rintro e w1 ⟨rfl, hR1, hk1⟩; have HR1 : Hid (w1.heap[R]? = some (.cells #[.slice (some ⟨g, 0, none⟩) n n, .int .i64 n, .int .i64 (-1)] 42 (0, 0))) := hR1; clear hR1; have HN : w1.heap[w.heap.size]? = some (.cells #[.int .u8 0, .int .u32 0, .int .i32 0] 37 (0, 0)) := hk1.lies (block_first _ _ _) (by simp; omega); have d0 := cell_at (o := 0) HN rfl; have d1 := cell_at (o := 1) HN rfl; have d2 := cell_at (o := 2) HN rfl; have e0 := free_at (o := 0) HN; have e1 := free_at (o := 1) HN; have e2 := free_at (o := 2) HN; clear HN) | (go_at_call 15; go_in))
  refine bodyPost_ret (v := .tuple #[.agg #[.int .u8 0, .int .u32 0, .int .i32 0], .iface 58 (.pointer (some a3))]) (by simp [results, Tryf.results13, go_sem, d0, d1, d2]) rfl ⟨rfl, ?_, ?_⟩
  · rw [set3_other _ _ _ _ _ _ (by omega)]; exact HR1.out
  · exact ((((Kept.refl _ _).alloc _).alloc _).trans hk1 |>.mono (S' := [R]) (by simp)).set3 _ _ _ _ (Nat.le_refl _)

/-- What the nine bytes read as. -/
theorem nine_cells (xs : List Int) (i : Nat) (h : i + 9 ≤ xs.length) (w : World) (b : Nat) (hb : w.heap[b]? = some (.cells (splice nine 0 (((xs.drop i).take 9).map (Value.int .u8))).toArray 45 (0, 0))) (j : Nat) (hj : j < 9) :
    w.cell? ⟨b, j, none⟩ = some (.int .u8 (xs.getD (i + j) 0)) := by
  have hl : (((xs.drop i).take 9).map (Value.int .u8)).length = 9 := by simp; omega
  refine cell_at hb ?_
  have e : splice nine 0 (((xs.drop i).take 9).map (Value.int .u8)) = ((xs.drop i).take 9).map (Value.int .u8) := by
    unfold splice
    rw [hl]
    simp [nine]
  rw [e]
  have hlt : i + j < xs.length := by omega
  simp [hj, List.getElem?_eq_getElem hlt]

theorem uint32_off (b off cap : Nat) (x : Nat → Int) (w : World) (ho : off + 3 < 9) (hx : ∀ j, 0 ≤ x j ∧ x j < 256) (hc : ∀ j, j < 9 → w.cell? ⟨b, j, none⟩ = some (.int .u8 (x j))) :
    Calls Tryf.prog 16 #[.agg #[], .slice (some ⟨b, off, none⟩) 4 cap] w fun e w' => e = .returned (.int .u32 (be (x off) (x (off + 1)) (x (off + 2)) (x (off + 3)))) ∧ w' = (w.alloc (.cells #[] 49)).drew := by
  have hb : b < w.heap.size := by
    have h0 := hc 0 (by omega)
    rcases Nat.lt_or_ge b w.heap.size with h' | h'
    · exact h'
    · simp [World.cell?, Array.getElem?_eq_none h'] at h0
  exact uint32_any b off cap _ _ _ _ w (hc _ (by omega)) (hc _ (by omega)) (hc _ (by omega)) (hc _ (by omega)) (hx _) (hx _) (hx _) (hx _) hb

set_option maxHeartbeats 400000 in
theorem head_good (R g i n : Nat) (xs : List Int) (p : Int) (w : World) (hn : xs.length = n) (hlt : i + 9 ≤ n) (hxs : n ≤ 1048576) (h3R : 3 < R) (hRg : R ≠ g)
    (x : Nat → Int) (hx : ∀ j, 0 ≤ x j ∧ x j < 256) (hxe : Hid (∀ j, x j = xs.getD (i + j) 0))
    (hR : w.heap[R]? = some (.cells #[.slice (some ⟨g, 0, none⟩) n n, .int .i64 i, .int .i64 p] 42 (0, 0)))
    (hg : w.heap[g]? = some (.cells (xs.map (Value.int .u8)).toArray 5 (0, 0)))
    (hl : be (x 1) (x 2) (x 3) (x 4) ≤ 1048576) :
    Calls Tryf.prog 13 #[.iface 25 (.pointer (some ⟨R, 0, none⟩))] w fun e w' => e = .returned (.tuple #[.agg #[.int .u8 (x 0), .int .u32 (be (x 1) (x 2) (x 3) (x 4)), .int .i32 (sg (be (x 5) (x 6) (x 7) (x 8)))], .nilIface]) ∧
      w'.heap[R]? = some (.cells #[.slice (some ⟨g, 0, none⟩) n n, .int .i64 ((i : Int) + 9), .int .i64 (-1)] 42 (0, 0)) ∧ Kept [R] w w' := by
  have hRb : R < w.heap.size + 1 := by have := lt_of_block hR; omega
  have hgb : g < w.heap.size + 1 := by have := lt_of_block hg; omega
  have HR : Hid (∀ W, Kept [] w W → W.heap[R]? = some (.cells #[.slice (some ⟨g, 0, none⟩) n n, .int .i64 i, .int .i64 p] 42 (0, 0))) := fun W k => k.lies hR (by simp)
  have Hg : Hid (∀ W, Kept [] w W → W.heap[g]? = some (.cells (xs.map (Value.int .u8)).toArray 5 (0, 0))) := fun W k => k.lies hg (by simp)
  have Hn : Hid (xs.length = n) := hn
  have hRlt : R < w.heap.size := lt_of_block hR
  have HX : Hid (∀ j, 0 ≤ x j ∧ x j < 256) := hx
  have hsg : IntKind.i32.wrap (be (x 5) (x 6) (x 7) (x 8)) = sg (be (x 5) (x 6) (x 7) (x 8)) := sg_wrap _ (be_bounds (hx _) (hx _) (hx _) (hx _)).1 (be_bounds (hx _) (hx _) (hx _) (hx _)).2
  clear hR hg hn hx
  go_enter Tryf.func13, Tryf.ntmps13
  go_wp2_with (first | (go_at_call 18; refine (atLeast_nine R g (w.heap.size + 1) i n xs p nine _ _ Hn.out hlt hxs rfl hRb hgb hRg rfl (by exact HR.out _ (((Kept.refl _ _).alloc _).alloc _)) (by exact Hg.out _ (((Kept.refl _ _).alloc _).alloc _)) (by exact block_two _ _ _) (by exact size_two _ _ _)).mono ?_; rintro e w1 ⟨rfl, hb1, hR1, hk1⟩; have HR1 : Hid (w1.heap[R]? = some (.cells #[.slice (some ⟨g, 0, none⟩) n n, .int .i64 ((i : Int) + 9), .int .i64 (-1)] 42 (0, 0))) := hR1; have HC : Hid (∀ W, Kept [] w1 W → ∀ j, j < 9 → W.cell? ⟨w.heap.size + 1, j, none⟩ = some (.int .u8 (x j))) := (fun W k j hj => by rw [hxe.out j]; exact k.cell (nine_cells xs i (by rw [Hn.out]; omega) w1 _ hb1 j hj) (by simp)); have HK1 := (((Kept.refl _ _).alloc _).alloc _).trans hk1 |>.mono (S' := [R]) (by simp); clear hR1 hb1; have HN : w1.heap[w.heap.size]? = some (.cells #[.int .u8 0, .int .u32 0, .int .i32 0] 37 (0, 0)) := hk1.lies (block_first _ _ _) (by simp; omega); have d0 := cell_at (o := 0) HN rfl; have d1 := cell_at (o := 1) HN rfl; have d2 := cell_at (o := 2) HN rfl; have e0 := free_at (o := 0) HN; have e1 := free_at (o := 1) HN; have e2 := free_at (o := 2) HN; have hz1 : w.heap.size < w1.heap.size := lt_of_block HN; have hz2 : w.heap.size < w1.heap.size + 1 := Nat.lt_succ_of_lt hz1; have hz3 : w.heap.size < w1.heap.size + 1 + 1 := Nat.lt_succ_of_lt hz2; clear HN) | (go_at_call 15; go_in))
  have c0 := HC.out w1 (Kept.refl _ _) 0 (by omega)
  have n0 := World.new_ne w1 _ c0
  go_region_held3 (fun W => W.cell? ⟨w.heap.size + 1, 0, none⟩ = some (.int .u8 (x 0))) (exact HC.out _ (by repeat (first | exact Kept.refl _ _ | apply Kept.drew | apply Kept.alloc | refine Kept.setCell ?_ (Or.inr (by simp)) _)) 0 (by omega))
    (first | (go_at_call 16; refine (uint32_off (w.heap.size + 1) _ _ x _ (by omega) HX.out (HC.out _ (by repeat (first | exact Kept.refl _ _ | apply Kept.drew | apply Kept.alloc)))).mono ?_; rintro e w' ⟨rfl, rfl⟩))
  all_goals
    clear c0 n0
    go_wp2
    refine bodyPost_ret (v := .tuple #[.agg #[.int .u8 (x 0), .int .u32 (be (x 1) (x 2) (x 3) (x 4)), .int .i32 (sg (be (x 5) (x 6) (x 7) (x 8)))], .nilIface]) (by simp [results, Tryf.results13, go_sem, d0, d1, d2, hz1, hz2, hz3]) rfl ⟨rfl, ?_, ?_⟩
    · exact Kept.lies (S := []) (w := ((w1.setCell ⟨w.heap.size, 0, none⟩ (.int .u8 (x 0))).setCell ⟨w.heap.size, 1, none⟩ (.int .u32 (be (x 1) (x 2) (x 3) (x 4)))).setCell ⟨w.heap.size, 2, none⟩ (.int .i32 (sg (be (x 5) (x 6) (x 7) (x 8)))))
        ((((((Kept.refl _ _).alloc _).alloc _).alloc _).drew).drew).drew (by rw [set3_other _ _ _ _ _ _ (by omega)]; exact HR1.out) (by simp)
    · exact ((((((HK1.set3 _ _ _ _ (Nat.le_refl _)).alloc _).alloc _).alloc _).drew).drew).drew

end Go.Proofs.Qxb6614263aFmt
