/-
  Package time: Add whole, IsZero, Equal, Sub.
-/
import Derived.Test.Qxb6605855aTime
import Derived.Deep.RegionHeld3
import Derived.Deep.DrawnRows
import Derived.BigQuiet
namespace Go.Proofs.Qxb6605855a
open Go Go.RowKit
set_option linter.unusedVariables false

theorem block_first (w : World) (o1 o2 : Obj) : ((w.alloc o1).alloc o2).heap[w.heap.size]? = some o1 := by
  rw [Below.heap_alloc _ _ _ (by simp)]
  exact block_new w o1
theorem block_two (w : World) (o1 o2 : Obj) : ((w.alloc o1).alloc o2).heap[w.heap.size + 1]? = some o2 := by
  have h := block_new (w.alloc o1) o2
  have e : (w.alloc o1).heap.size = w.heap.size + 1 := by simp
  rw [e] at h
  exact h

theorem add_tot (n s d n' s' : Int) (w : World) (hn : 0 ≤ n ∧ n < 1000000000) (hn' : 0 ≤ n' ∧ n' < 1000000000) (h : s' * 1000000000 + n' = s * 1000000000 + n + d) (hs1 : -100000000000 ≤ s) (hs2 : s ≤ 100000000000) (hd1 : -9223372036854775808 ≤ d) (hd2 : d ≤ 9223372036854775807) :
    Calls Try.prog 30 #[.agg #[.int .u64 n, .int .i64 s, .pointer none], .int .i64 d] w fun e w' => e = .returned (.agg #[.int .u64 n', .int .i64 s', .pointer none]) ∧ Kept [] w w' := by
  obtain ⟨q, r, hq, hr, hqr, hr1, hr2⟩ := cut_div d
  by_cases c1 : n + r < 0
  · obtain rfl : n' = n + r + 1000000000 := by omega
    obtain rfl : s' = s + (q - 1) := by omega
    exact add_under n s d q r w hn hq hr hr1 hr2 hs1 hs2 (by omega) (by omega) c1
  · by_cases c2 : n + r < 1000000000
    · obtain rfl : n' = n + r := by omega
      obtain rfl : s' = s + q := by omega
      exact add_mid n s d q r w hn hq hr hr1 hr2 hs1 hs2 (by omega) (by omega) (by omega) c2
    · obtain rfl : n' = n + r - 1000000000 := by omega
      obtain rfl : s' = s + (q + 1) := by omega
      exact add_over n s d q r w hn hq hr hr1 hr2 hs1 hs2 (by omega) (by omega) (by omega)

theorem isZero_no (n s : Int) (w : World) (h : ¬ (n = 0 ∧ s = 0)) :
    Calls Try.prog 52 #[.agg #[.int .u64 n, .int .i64 s, .pointer none]] w fun e w' => e = .returned (.bool false) ∧ Kept [] w w' := by
  by_cases hn : n = 0
  · have h0 : (s == 0) = false := beq_eq_false_iff_ne.2 (by omega)
    subst hn
    clear h
    go_enter Try.func52, Try.ntmps52
    go_wp2
    go_ret
    exact ⟨rfl, (Kept.refl _ _).alloc _⟩
  · have h0 : (n == 0) = false := beq_eq_false_iff_ne.2 hn
    clear h hn
    go_enter Try.func52, Try.ntmps52
    go_wp2
    go_ret
    exact ⟨rfl, (Kept.refl _ _).alloc _⟩

theorem equal_same (n s : Int) (w : World) (hn : 0 ≤ n ∧ n < 1000000000) :
    Calls Try.prog 55 #[.agg #[.int .u64 n, .int .i64 s, .pointer none], .agg #[.int .u64 n, .int .i64 s, .pointer none]] w fun e w' => e = .returned (.bool true) ∧ Kept [] w w' := by
  have hm := and_both n n hn.1 (by omega) hn.1 (by omega)
  go_enter Try.func55, Try.ntmps55
  go_wp2_with (first | (go_at_call 51; refine (sec_any _ 0 n s _ hn (by go_simp) (by go_simp)).mono ?_; rintro e w' ⟨rfl, rfl⟩) | (go_at_call 42; refine (nsec_any _ 0 n _ hn (by go_simp)).mono ?_; rintro e w' ⟨rfl, rfl⟩))
  go_ret
  exact ⟨rfl, ((Kept.refl _ _).alloc _).alloc _⟩

set_option maxHeartbeats 400000 in
theorem sub_any (n1 s1 n2 s2 d : Int) (w : World) (hn1 : 0 ≤ n1 ∧ n1 < 1000000000) (hn2 : 0 ≤ n2 ∧ n2 < 1000000000) (hs11 : -20000000000 ≤ s1) (hs12 : s1 ≤ 20000000000) (hs21 : -20000000000 ≤ s2) (hs22 : s2 ≤ 20000000000)
    (h : s1 * 1000000000 + n1 = s2 * 1000000000 + n2 + d) (hd1 : -9223372036854775808 ≤ d) (hd2 : d ≤ 9223372036854775807) :
    Calls Try.prog 53 #[.agg #[.int .u64 n1, .int .i64 s1, .pointer none], .agg #[.int .u64 n2, .int .i64 s2, .pointer none]] w fun e w' => e = .returned (.int .i64 d) ∧ Kept [] w w' := by
  have hm := and_both n1 n2 hn1.1 (by omega) hn2.1 (by omega)
  have H : Hid (s1 * 1000000000 + n1 = s2 * 1000000000 + n2 + d) := h
  clear h
  obtain ⟨h11, h12⟩ := hn1
  obtain ⟨h21, h22⟩ := hn2
  go_enter Try.func53, Try.ntmps53
  go_wp2_with (first | (go_at_call_of 51 (Value.pointer (some ⟨w.heap.size, 0, none⟩)); refine (sec_any _ 0 n1 s1 _ ⟨h11, h12⟩ (by go_simp) (by go_simp)).mono ?_; rintro e w' ⟨rfl, rfl⟩) | (go_at_call 51; refine (sec_any _ 0 n2 s2 _ ⟨h21, h22⟩ (by go_simp) (by go_simp)).mono ?_; rintro e w' ⟨rfl, rfl⟩) | (go_at_call_of 42 (Value.pointer (some ⟨w.heap.size, 0, none⟩)); refine (nsec_any _ 0 n1 _ ⟨h11, h12⟩ (by go_simp)).mono ?_; rintro e w' ⟨rfl, rfl⟩) | (go_at_call 42; refine (nsec_any _ 0 n2 _ ⟨h21, h22⟩ (by go_simp)).mono ?_; rintro e w' ⟨rfl, rfl⟩))
  have e : wrap64 (wrap64 ((s1 - s2) * 1000000000) + (n1 - n2)) = d := by have := H.out; unfold wrap64; omega
  rw [e]
  clear e
  have HS : Hid (∀ W, Kept [] ((w.alloc (.cells #[.int .u64 n1, .int .i64 s1, .pointer none] 64)).alloc (.cells #[.int .u64 n2, .int .i64 s2, .pointer none] 64)) W →
      W.cell? ⟨w.heap.size, 0, none⟩ = some (.int .u64 n1) ∧ W.cell? ⟨w.heap.size, 1, none⟩ = some (.int .i64 s1) ∧ W.cell? ⟨w.heap.size, 2, none⟩ = some (.pointer none) ∧
      W.cell? ⟨w.heap.size + 1, 0, none⟩ = some (.int .u64 n2) ∧ W.cell? ⟨w.heap.size + 1, 1, none⟩ = some (.int .i64 s2) ∧ W.cell? ⟨w.heap.size + 1, 2, none⟩ = some (.pointer none)) := fun W k => by
    have h1 := k.lies (block_first w _ _) (by simp)
    have h2 := k.lies (block_two w _ _) (by simp)
    exact ⟨cell_at h1 rfl, cell_at h1 rfl, cell_at h1 rfl, cell_at h2 rfl, cell_at h2 rfl, cell_at h2 rfl⟩
  go_region_held3 (fun W => W.cell? ⟨w.heap.size, 0, none⟩ = some (.int .u64 n1) ∧ W.cell? ⟨w.heap.size, 1, none⟩ = some (.int .i64 s1) ∧ W.cell? ⟨w.heap.size, 2, none⟩ = some (.pointer none) ∧
      W.cell? ⟨w.heap.size + 1, 0, none⟩ = some (.int .u64 n2) ∧ W.cell? ⟨w.heap.size + 1, 1, none⟩ = some (.int .i64 s2) ∧ W.cell? ⟨w.heap.size + 1, 2, none⟩ = some (.pointer none))
    (first | exact HS.out _ (Kept.refl _ _).drew | exact HS.out _ ((Kept.refl _ _).drew.trans hk5) | exact HS.out _ (((Kept.refl _ _).drew.trans hk5).trans hk6))
    (first | (go_at_call 30; refine (add_tot n2 s2 d n1 s1 _ ⟨h21, h22⟩ ⟨h11, h12⟩ H.out (by omega) (by omega) hd1 hd2).mono ?_; rintro e w5 ⟨rfl, hk5⟩) | (go_at_call 55; refine (equal_same n1 s1 _ ⟨h11, h12⟩).mono ?_; rintro e w6 ⟨rfl, hk6⟩))
  go_wp2
  go_ret
  exact ⟨rfl, ((((Kept.refl _ _).alloc _).alloc _).drew.trans hk5).trans hk6⟩

end Go.Proofs.Qxb6605855a
