/-
  Package time on times without a monotonic reading: nsec, sec, addSec, Add.
-/
import Derived.Test.Qxb6605855aRows
import Derived.Test.Qxb6605855aBits
import Derived.WalkSpells
import Derived.WalkLawsBesides
namespace Go.Proofs.Qxb6605855a
open Go Go.RowKit
set_option linter.unusedVariables false

theorem nsec_any (b o : Nat) (n : Int) (w : World) (hn : 0 ≤ n ∧ n < 1000000000) (hc : w.cell? ⟨b, o, none⟩ = some (.int .u64 n)) :
    Calls Try.prog 42 #[.pointer (some ⟨b, o, none⟩)] w fun e w' => e = .returned (.int .i32 n) ∧ w' = w := by
  have hm := mask_low n hn.1 (by omega)
  obtain ⟨h0, h1⟩ := hn
  go_enter Try.func42, Try.ntmps42
  go_wp2
  go_ret
  exact ⟨rfl, rfl⟩

theorem sec_any (b o : Nat) (n s : Int) (w : World) (hn : 0 ≤ n ∧ n < 1000000000) (hc : w.cell? ⟨b, o, none⟩ = some (.int .u64 n)) (hs : w.cell? ⟨b, o + 1, none⟩ = some (.int .i64 s)) :
    Calls Try.prog 51 #[.pointer (some ⟨b, o, none⟩)] w fun e w' => e = .returned (.int .i64 s) ∧ w' = w := by
  have hm := mask_high n hn.1 (by omega)
  clear hn
  go_enter Try.func51, Try.ntmps51
  go_wp2
  go_ret
  exact ⟨rfl, rfl⟩

/-- addSec where the sum does not wrap. -/
theorem addSec_any (b : Nat) (n s d : Int) (w : World) (hn : 0 ≤ n ∧ n < 1000000000) (hc : w.cell? ⟨b, 0, none⟩ = some (.int .u64 n)) (hs : w.cell? ⟨b, 1, none⟩ = some (.int .i64 s)) (hf : w.frozen? ⟨b, 1, none⟩ = false)
    (hb1 : -9000000000000000000 ≤ s + d) (hb2 : s + d ≤ 9000000000000000000) :
    Calls Try.prog 43 #[.pointer (some ⟨b, 0, none⟩), .int .i64 d] w fun e w' => e = .returned (.tuple #[]) ∧ w' = w.setCell ⟨b, 1, none⟩ (.int .i64 (s + d)) := by
  have hm := mask_high n hn.1 (by omega)
  clear hn
  by_cases h : 0 < d
  · have e1 : decide (s < s + d) = true := by simp; omega
    have e2 : decide (0 < d) = true := by simp; omega
    go_enter Try.func43, Try.ntmps43
    go_wp2
    go_end0
    exact ⟨rfl, rfl⟩
  · have e1 : decide (s < s + d) = false := by simp; omega
    have e2 : decide (0 < d) = false := by simp; omega
    go_enter Try.func43, Try.ntmps43
    go_wp2
    go_end0
    exact ⟨rfl, rfl⟩

theorem add_mid (n s d q r : Int) (w : World) (hn : 0 ≤ n ∧ n < 1000000000) (hq : d.tdiv 1000000000 = q) (hr : d.tmod 1000000000 = r) (hr1 : -1000000000 < r) (hr2 : r < 1000000000) (hs1 : -100000000000 ≤ s) (hs2 : s ≤ 100000000000) (hq1 : -100000000000 ≤ q) (hq2 : q ≤ 100000000000) (h1 : 0 ≤ n + r) (h2 : n + r < 1000000000) :
    Calls Try.prog 30 #[.agg #[.int .u64 n, .int .i64 s, .pointer none], .int .i64 d] w fun e w' => e = .returned (.agg #[.int .u64 (n + r), .int .i64 (s + q), .pointer none]) ∧ Kept [] w w' := by
  have m1 := mask_off n hn.1 (by omega)
  have m2 := or_none (n + r) (by omega) (by omega)
  have m3 := mask_high (n + r) (by omega) (by omega)
  go_enter Try.func30, Try.ntmps30
  go_wp2_with (first | (go_at_call 42; refine (nsec_any w.heap.size 0 n _ hn (by go_simp)).mono ?_; rintro e w' ⟨rfl, rfl⟩) | (go_at_call 43; refine (addSec_any w.heap.size (n + r) s (q) _ (by omega) (by go_simp) (by go_simp) (by go_simp) (by omega) (by omega)).mono ?_; rintro e w' ⟨rfl, rfl⟩))
  exact bodyPost_ret (v := .agg #[.int .u64 (n + r), .int .i64 (s + q), .pointer none]) (by simp [results, Try.results30, go_sem]) rfl ⟨rfl, ((Kept.refl _ _).alloc _).alloc _⟩

theorem add_over (n s d q r : Int) (w : World) (hn : 0 ≤ n ∧ n < 1000000000) (hq : d.tdiv 1000000000 = q) (hr : d.tmod 1000000000 = r) (hr1 : -1000000000 < r) (hr2 : r < 1000000000) (hs1 : -100000000000 ≤ s) (hs2 : s ≤ 100000000000) (hq1 : -100000000000 ≤ q) (hq2 : q ≤ 100000000000) (h1 : 1000000000 ≤ n + r) :
    Calls Try.prog 30 #[.agg #[.int .u64 n, .int .i64 s, .pointer none], .int .i64 d] w fun e w' => e = .returned (.agg #[.int .u64 (n + r - 1000000000), .int .i64 (s + (q + 1)), .pointer none]) ∧ Kept [] w w' := by
  have m1 := mask_off n hn.1 (by omega)
  have m2 := or_none (n + r - 1000000000) (by omega) (by omega)
  have m3 := mask_high (n + r - 1000000000) (by omega) (by omega)
  go_enter Try.func30, Try.ntmps30
  go_wp2_with (first | (go_at_call 42; refine (nsec_any w.heap.size 0 n _ hn (by go_simp)).mono ?_; rintro e w' ⟨rfl, rfl⟩) | (go_at_call 43; refine (addSec_any w.heap.size (n + r - 1000000000) s ((q + 1)) _ (by omega) (by go_simp) (by go_simp) (by go_simp) (by omega) (by omega)).mono ?_; rintro e w' ⟨rfl, rfl⟩))
  exact bodyPost_ret (v := .agg #[.int .u64 (n + r - 1000000000), .int .i64 (s + (q + 1)), .pointer none]) (by simp [results, Try.results30, go_sem]) rfl ⟨rfl, ((Kept.refl _ _).alloc _).alloc _⟩

theorem add_under (n s d q r : Int) (w : World) (hn : 0 ≤ n ∧ n < 1000000000) (hq : d.tdiv 1000000000 = q) (hr : d.tmod 1000000000 = r) (hr1 : -1000000000 < r) (hr2 : r < 1000000000) (hs1 : -100000000000 ≤ s) (hs2 : s ≤ 100000000000) (hq1 : -100000000000 ≤ q) (hq2 : q ≤ 100000000000) (h1 : n + r < 0) :
    Calls Try.prog 30 #[.agg #[.int .u64 n, .int .i64 s, .pointer none], .int .i64 d] w fun e w' => e = .returned (.agg #[.int .u64 (n + r + 1000000000), .int .i64 (s + (q - 1)), .pointer none]) ∧ Kept [] w w' := by
  have m1 := mask_off n hn.1 (by omega)
  have m2 := or_none (n + r + 1000000000) (by omega) (by omega)
  have m3 := mask_high (n + r + 1000000000) (by omega) (by omega)
  go_enter Try.func30, Try.ntmps30
  go_wp2_with (first | (go_at_call 42; refine (nsec_any w.heap.size 0 n _ hn (by go_simp)).mono ?_; rintro e w' ⟨rfl, rfl⟩) | (go_at_call 43; refine (addSec_any w.heap.size (n + r + 1000000000) s ((q - 1)) _ (by omega) (by go_simp) (by go_simp) (by go_simp) (by omega) (by omega)).mono ?_; rintro e w' ⟨rfl, rfl⟩))
  exact bodyPost_ret (v := .agg #[.int .u64 (n + r + 1000000000), .int .i64 (s + (q - 1)), .pointer none]) (by simp [results, Try.results30, go_sem]) rfl ⟨rfl, ((Kept.refl _ _).alloc _).alloc _⟩

end Go.Proofs.Qxb6605855a
