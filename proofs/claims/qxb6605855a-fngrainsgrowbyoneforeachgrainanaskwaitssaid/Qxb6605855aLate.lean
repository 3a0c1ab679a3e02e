/-
  late, grains, ZZgrains, ZZnewAckAsks.
-/
import Derived.Test.Qxb6605855aSub
namespace Go.Proofs.Qxb6605855a
open Go Go.RowKit
set_option linter.unusedVariables false

set_option maxHeartbeats 400000 in
theorem late_any (A : Nat) (n1 s1 lag n s d : Int) (w : World) (hn1 : 0 ≤ n1 ∧ n1 < 1000000000) (hn : 0 ≤ n ∧ n < 1000000000) (hs11 : -20000000000 ≤ s1) (hs12 : s1 ≤ 20000000000) (hs21 : -20000000000 ≤ s) (hs22 : s ≤ 20000000000)
    (h0 : ¬ (n1 = 0 ∧ s1 = 0)) (h : s * 1000000000 + n = s1 * 1000000000 + n1 + d) (hd1 : 0 ≤ d) (hd2 : d ≤ 9223372036854775807) (hl : lag ≤ d)
    (c1 : w.cell? ⟨A, 1, none⟩ = some (.int .u64 n1)) (c2 : w.cell? ⟨A, 2, none⟩ = some (.int .i64 s1)) (c3 : w.cell? ⟨A, 3, none⟩ = some (.pointer none)) (c13 : w.cell? ⟨A, 13, none⟩ = some (.int .i64 lag)) :
    Calls Try.prog 45 #[.pointer (some ⟨A, 0, none⟩), .agg #[.int .u64 n, .int .i64 s, .pointer none]] w fun e w' => e = .returned (.int .i64 d) ∧ Kept [] w w' := by
  have H : Hid (s * 1000000000 + n = s1 * 1000000000 + n1 + d) := h
  have H0 : Hid (¬ (n1 = 0 ∧ s1 = 0)) := h0
  have hA : A < w.heap.size := by
    rcases Nat.lt_or_ge A w.heap.size with h' | h'
    · exact h'
    · simp [World.cell?, Array.getElem?_eq_none h'] at c1
  have HS : Hid (∀ W, Kept [] (w.alloc (.cells #[.int .u64 n, .int .i64 s, .pointer none] 64)) W →
      W.cell? ⟨A, 1, none⟩ = some (.int .u64 n1) ∧ W.cell? ⟨A, 2, none⟩ = some (.int .i64 s1) ∧ W.cell? ⟨A, 3, none⟩ = some (.pointer none) ∧ W.cell? ⟨A, 13, none⟩ = some (.int .i64 lag) ∧
      W.cell? ⟨w.heap.size, 0, none⟩ = some (.int .u64 n) ∧ W.cell? ⟨w.heap.size, 1, none⟩ = some (.int .i64 s) ∧ W.cell? ⟨w.heap.size, 2, none⟩ = some (.pointer none)) := fun W k => by
    have k' := ((Kept.refl [] w).alloc _).trans k
    have h1 := k.lies (block_new w _) (by simp)
    exact ⟨k'.cell c1 (by simp), k'.cell c2 (by simp), k'.cell c3 (by simp), k'.cell c13 (by simp), cell_at h1 rfl, cell_at h1 rfl, cell_at h1 rfl⟩
  clear h h0
  go_enter Try.func45, Try.ntmps45
  go_wp2_with (go_at_call 52; refine (isZero_no n1 s1 _ H0.out).mono ?_; rintro e w1 ⟨rfl, hk1⟩)
  have S1 := HS.out _ hk1
  obtain ⟨g1, g2, g3, g4, g5, g6, g7⟩ := S1
  have HS1 : Hid (∀ W, Kept [] w1 W →
      W.cell? ⟨A, 1, none⟩ = some (.int .u64 n1) ∧ W.cell? ⟨A, 2, none⟩ = some (.int .i64 s1) ∧ W.cell? ⟨A, 3, none⟩ = some (.pointer none) ∧ W.cell? ⟨A, 13, none⟩ = some (.int .i64 lag) ∧
      W.cell? ⟨w.heap.size, 0, none⟩ = some (.int .u64 n) ∧ W.cell? ⟨w.heap.size, 1, none⟩ = some (.int .i64 s) ∧ W.cell? ⟨w.heap.size, 2, none⟩ = some (.pointer none)) := fun W k => HS.out W (hk1.trans k)
  clear c1 c2 c3 c13
  go_region_held3 (fun W => W.cell? ⟨A, 1, none⟩ = some (.int .u64 n1) ∧ W.cell? ⟨A, 2, none⟩ = some (.int .i64 s1) ∧ W.cell? ⟨A, 3, none⟩ = some (.pointer none) ∧ W.cell? ⟨A, 13, none⟩ = some (.int .i64 lag) ∧
      W.cell? ⟨w.heap.size, 0, none⟩ = some (.int .u64 n) ∧ W.cell? ⟨w.heap.size, 1, none⟩ = some (.int .i64 s) ∧ W.cell? ⟨w.heap.size, 2, none⟩ = some (.pointer none))
    (first | exact HS1.out _ (Kept.refl _ _).drew | exact HS1.out _ ((Kept.refl _ _).drew.trans hk5))
    (first | (go_at_call 53; refine (sub_any n s n1 s1 d _ hn hn1 hs21 hs22 hs11 hs12 H.out (by omega) hd2).mono ?_; rintro e w5 ⟨rfl, hk5⟩))
  go_wp2
  all_goals
    go_ret
    exact ⟨ret_int (by omega), (((Kept.refl _ _).alloc _).trans hk1).drew.trans hk5⟩

theorem grains_any (A : Nat) (n1 s1 lag n s d : Int) (w : World) (hn1 : 0 ≤ n1 ∧ n1 < 1000000000) (hn : 0 ≤ n ∧ n < 1000000000) (hs11 : -20000000000 ≤ s1) (hs12 : s1 ≤ 20000000000) (hs21 : -20000000000 ≤ s) (hs22 : s ≤ 20000000000)
    (h0 : ¬ (n1 = 0 ∧ s1 = 0)) (h : s * 1000000000 + n = s1 * 1000000000 + n1 + d) (hd1 : 0 ≤ d) (hd2 : d ≤ 9223372036854775807) (hl : lag ≤ d)
    (c1 : w.cell? ⟨A, 1, none⟩ = some (.int .u64 n1)) (c2 : w.cell? ⟨A, 2, none⟩ = some (.int .i64 s1)) (c3 : w.cell? ⟨A, 3, none⟩ = some (.pointer none)) (c13 : w.cell? ⟨A, 13, none⟩ = some (.int .i64 lag)) :
    Calls Try.prog 31 #[.pointer (some ⟨A, 0, none⟩), .agg #[.int .u64 n, .int .i64 s, .pointer none]] w fun e w' => e = .returned (.int .i64 (d / 5000000)) ∧ Kept [] w w' := by
  have HL : Hid (∀ W, Kept [] w W → Calls Try.prog 45 #[.pointer (some ⟨A, 0, none⟩), .agg #[.int .u64 n, .int .i64 s, .pointer none]] W fun e w' => e = .returned (.int .i64 d) ∧ Kept [] W w') := fun W k =>
    late_any A n1 s1 lag n s d W hn1 hn hs11 hs12 hs21 hs22 h0 h hd1 hd2 hl (k.cell c1 (by simp)) (k.cell c2 (by simp)) (k.cell c3 (by simp)) (k.cell c13 (by simp))
  clear h h0
  go_enter Try.func31, Try.ntmps31
  go_wp2_with (go_at_call 45; refine (HL.out _ ((Kept.refl _ _).alloc _)).mono ?_; rintro e w1 ⟨rfl, hk1⟩)
  go_ret
  exact ⟨rfl, ((Kept.refl _ _).alloc _).trans hk1⟩

/-- Seconds and nanoseconds of a count of nanoseconds. -/
def secs (v : Int) : Int := v / 1000000000
def nano (v : Int) : Int := v % 1000000000
theorem nano_bounds (v : Int) : 0 ≤ nano v ∧ nano v < 1000000000 := by unfold nano; omega
theorem secs_nano (v : Int) : secs v * 1000000000 + nano v = v := by unfold secs nano; omega
theorem secs_bounds {v : Int} (h1 : -9223372036854775808 ≤ v) (h2 : v ≤ 9223372036854775807) : -20000000000 ≤ secs v ∧ secs v ≤ 20000000000 := by unfold secs; omega
theorem not_nought {v : Int} (h : v ≠ 0) : ¬ (nano v = 0 ∧ secs v = 0) := by unfold secs nano; omega

/-- Time{}.Add. -/
theorem add_zero (v : Int) (w : World) (h1 : -9223372036854775808 ≤ v) (h2 : v ≤ 9223372036854775807) :
    Calls Try.prog 30 #[.agg #[.int .u64 0, .int .i64 0, .pointer none], .int .i64 v] w fun e w' => e = .returned (.agg #[.int .u64 (nano v), .int .i64 (secs v), .pointer none]) ∧ Kept [] w w' :=
  add_tot 0 0 v (nano v) (secs v) w (by omega) (nano_bounds v) (by have := secs_nano v; omega) (by omega) (by omega) h1 h2

theorem zzGrains_any (A : Nat) (f lag v : Int) (w : World) (hf0 : f ≠ 0) (hf1 : -9223372036854775808 ≤ f) (hf2 : f ≤ 9223372036854775807) (hv1 : -9223372036854775808 ≤ v) (hv2 : v ≤ 9223372036854775807) (hd1 : 0 ≤ v - f) (hd2 : v - f ≤ 9223372036854775807) (hl : lag ≤ v - f)
    (c1 : w.cell? ⟨A, 1, none⟩ = some (.int .u64 (nano f))) (c2 : w.cell? ⟨A, 2, none⟩ = some (.int .i64 (secs f))) (c3 : w.cell? ⟨A, 3, none⟩ = some (.pointer none)) (c13 : w.cell? ⟨A, 13, none⟩ = some (.int .i64 lag)) :
    Calls Try.prog 10 #[.pointer (some ⟨A, 0, none⟩), .int .i64 v] w fun e w' => e = .returned (.int .i64 ((v - f) / 5000000)) ∧ Kept [] w w' := by
  have HG : Hid (∀ W, Kept [] w W → Calls Try.prog 31 #[.pointer (some ⟨A, 0, none⟩), .agg #[.int .u64 (nano v), .int .i64 (secs v), .pointer none]] W fun e w' => e = .returned (.int .i64 ((v - f) / 5000000)) ∧ Kept [] W w') := fun W k =>
    grains_any A (nano f) (secs f) lag (nano v) (secs v) (v - f) W (nano_bounds f) (nano_bounds v) (secs_bounds hf1 hf2).1 (secs_bounds hf1 hf2).2 (secs_bounds hv1 hv2).1 (secs_bounds hv1 hv2).2 (not_nought hf0) (by have := secs_nano v; have := secs_nano f; omega) hd1 hd2 hl
      (k.cell c1 (by simp)) (k.cell c2 (by simp)) (k.cell c3 (by simp)) (k.cell c13 (by simp))
  clear c1 c2 c3 c13
  go_enter Try.func10, Try.ntmps10
  go_wp2_with (first | (go_at_call 30; refine (add_zero v _ hv1 hv2).mono ?_; rintro e w1 ⟨rfl, hk1⟩) | (go_at_call 31; refine (HG.out _ hk1).mono ?_; rintro e w2 ⟨rfl, hk2⟩))
  go_ret
  exact ⟨rfl, hk1.trans hk2⟩

theorem newAsks_any (quick : Bool) (f fto l lto to' last lag : Int) (w : World) (hf1 : -9223372036854775808 ≤ f) (hf2 : f ≤ 9223372036854775807) (hl1 : -9223372036854775808 ≤ l) (hl2 : l ≤ 9223372036854775807) (ht1 : -9223372036854775808 ≤ last) (ht2 : last ≤ 9223372036854775807) :
    Calls Try.prog 9 #[.bool quick, .int .i64 f, .int .u64 fto, .int .i64 l, .int .u64 lto, .int .u64 to', .int .i64 last, .int .i64 lag] w fun e w' => ∃ A, e = .returned (.pointer (some ⟨A, 0, none⟩)) ∧
      w'.heap[A]? = some (.cells #[.bool quick, .int .u64 (nano f), .int .i64 (secs f), .pointer none, .int .u64 fto, .int .u64 (nano l), .int .i64 (secs l), .pointer none, .int .u64 lto, .int .u64 to', .int .u64 (nano last), .int .i64 (secs last), .pointer none, .int .i64 lag] 70 (0, 0)) ∧ Kept [] w w' := by
  go_enter Try.func9, Try.ntmps9
  go_wp2_with fail
  refine (add_zero f _ hf1 hf2).mono ?_
  rintro e w1 ⟨rfl, hk1⟩
  go_wp2_with fail
  refine (add_zero l _ hl1 hl2).mono ?_
  rintro e w2 ⟨rfl, hk2⟩
  go_wp2_with fail
  refine (add_zero last _ ht1 ht2).mono ?_
  rintro e w3 ⟨rfl, hk3⟩
  go_wp2
  go_ret
  exact ⟨_, rfl, block_new _ _, ((hk1.trans hk2).trans hk3).alloc _⟩

end Go.Proofs.Qxb6605855a
