/-
  io.ReadFull over a *bytes.Reader into nine bytes.
-/
import Derived.Test.Qxb6614263aFmtRead
namespace Go.Proofs.Qxb6614263aFmt
open Go Go.RowKit Go.Extern.Stop Go.Stop Go.Extern
set_option linter.unusedVariables false

theorem nil_ahead (a : Addr) (w : World) : (nilAhead 182 25 (.pointer (some a)) "Read").run Tryf.prog w = .ok (some false) w := by kernel_rfl
theorem method_read (a : Addr) (w : World) : (method 182 25 (.pointer (some a)) "Read").run Tryf.prog w = .ok (36, .pointer (some a)) w := by kernel_rfl

set_option maxHeartbeats 400000 in
theorem atLeast_none (R b : Nat) (ao : Option Addr) (n c : Nat) (p : Int) (a2 : Addr) (w : World) (hn : n ≤ 1048576)
    (hR : w.heap[R]? = some (.cells #[.slice ao n c, .int .i64 n, .int .i64 p] 42 (0, 0)))
    (hE : w.cell? ⟨2, 0, none⟩ = some (.iface 58 (.pointer (some a2)))) :
    Calls Tryf.prog 18 #[.iface 25 (.pointer (some ⟨R, 0, none⟩)), .slice (some ⟨b, 0, none⟩) 9 9, .int .i64 9] w fun e w' => e = .returned (.tuple #[.int .i64 0, .iface 58 (.pointer (some a2))]) ∧ ∃ q, w' = w.drewN q := by
  have HR : Hid (w.heap[R]? = some (.cells #[.slice ao n c, .int .i64 n, .int .i64 p] 42 (0, 0))) := hR
  clear hR
  have k1 := nil_ahead
  have k2 := method_read
  go_enter Tryf.func18, Tryf.ntmps18
  go_wp2
  refine wp_loop_rounds 2 ?_
  rw [rounds_succ]
  go_wp2_with fail
  go_region_with (go_at_call 36; refine (read_eof R ao n c p _ _ _ a2 _ hn (by exact HR.out) (by exact hE)).mono ?_; rintro e w' ⟨rfl, q, rfl⟩)
  go_wp2
  rw [rounds_succ]
  go_wp2
  go_ret2
  exact ⟨rfl, _, by first | rfl | exact World.drewN_drew _ _⟩

set_option maxHeartbeats 400000 in
theorem atLeast_nine (R g b i n : Nat) (xs : List Int) (p : Int) (cur X : List Value) (w : World) (hn : xs.length = n) (hlt : i + 9 ≤ n) (hxs : n ≤ 1048576) (hcur : cur.length = 9) (hRb : R < b) (hgb : g < b) (hRg : R ≠ g)
    (hX : Hid (X = ((xs.drop i).take 9).map (Value.int .u8)))
    (hR : w.heap[R]? = some (.cells #[.slice (some ⟨g, 0, none⟩) n n, .int .i64 i, .int .i64 p] 42 (0, 0)))
    (hg : w.heap[g]? = some (.cells (xs.map (Value.int .u8)).toArray 5 (0, 0)))
    (hb : w.heap[b]? = some (.cells cur.toArray 45 (0, 0))) (hz : w.heap.size = b + 1) :
    Calls Tryf.prog 18 #[.iface 25 (.pointer (some ⟨R, 0, none⟩)), .slice (some ⟨b, 0, none⟩) 9 9, .int .i64 9] w fun e w' => e = .returned (.tuple #[.int .i64 9, .nilIface]) ∧ w'.heap[b]? = some (.cells (splice cur 0 X).toArray 45 (0, 0)) ∧
      w'.heap[R]? = some (.cells #[.slice (some ⟨g, 0, none⟩) n n, .int .i64 ((i : Int) + 9), .int .i64 (-1)] 42 (0, 0)) ∧ Kept [R, b] w w' := by
  have hlX : X.length = 9 := by rw [hX.out]; simp; omega
  have HR : Hid (w.heap[R]? = some (.cells #[.slice (some ⟨g, 0, none⟩) n n, .int .i64 i, .int .i64 p] 42 (0, 0))) := hR
  have Hg : Hid (w.heap[g]? = some (.cells (xs.map (Value.int .u8)).toArray 5 (0, 0))) := hg
  have Hb : Hid (w.heap[b]? = some (.cells cur.toArray 45 (0, 0))) := hb
  have Hz : Hid (w.heap.size = b + 1) := hz
  have Hn : Hid (xs.length = n) := hn
  have k1 := nil_ahead
  have k2 := method_read
  clear hR hg hb hz hn
  go_enter Tryf.func18, Tryf.ntmps18
  go_wp2
  refine wp_loop_rounds 2 ?_
  rw [rounds_succ]
  go_wp2_with fail
  go_region_with (go_at_call 36; refine (read_some R g b i n xs p cur X _ Hn.out (by omega) hxs hcur hRb hgb hRg hX (by exact HR.out) (by exact Hg.out) (by exact Hb.out) (by exact Hz.out)).mono ?_; rintro e w' ⟨rfl, hb1, hR1, hk1⟩; have HB1 : Hid (w'.heap[b]? = some (.cells (splice cur 0 X).toArray 45 (0, 0))) := hb1; have HR1 : Hid (w'.heap[R]? = some (.cells #[.slice (some ⟨g, 0, none⟩) n n, .int .i64 ((i : Int) + X.length), .int .i64 (-1)] 42 (0, 0))) := hR1; clear hb1 hR1)
  go_wp2
  rw [rounds_succ]
  go_wp2
  go_ret2
  exact ⟨rfl, HB1.out, by have := HR1.out; rw [hlX] at this; exact this, (Kept.refl _ _).drew.trans hk1⟩

theorem comp58 : (Tryf.prog.info? 58).map (·.comparable) = some true := by kernel_rfl
theorem size60 : (Tryf.prog.info? 60).map (·.size) = some 1 := by kernel_rfl
theorem eql_same (a : Addr) (w : World) : (binOp .eql 29 (.iface 58 (.pointer (some a))) (.iface 58 (.pointer (some a)))).run Tryf.prog w = .ok (.bool true) w := by
  obtain ⟨i, hi, hcmp⟩ := Option.map_eq_some_iff.1 comp58
  obtain ⟨j, hj, _⟩ := Option.map_eq_some_iff.1 size60
  exact run_eql_iface_ptr_same w a Tryf.underlying29 Tryf.underlying58 hi hcmp hj

set_option maxHeartbeats 400000 in
theorem atLeast_some (R g b i n : Nat) (xs : List Int) (p : Int) (cur X : List Value) (a2 a3 : Addr) (w : World) (hn : xs.length = n) (hi : i < n) (hlt : n < i + 9) (hxs : n ≤ 1048576) (hcur : cur.length = 9) (h3R : 3 < R) (hRb : R < b) (hgb : g < b) (hRg : R ≠ g)
    (hX : Hid (X = ((xs.drop i).take 9).map (Value.int .u8)))
    (hR : w.heap[R]? = some (.cells #[.slice (some ⟨g, 0, none⟩) n n, .int .i64 i, .int .i64 p] 42 (0, 0)))
    (hg : w.heap[g]? = some (.cells (xs.map (Value.int .u8)).toArray 5 (0, 0)))
    (hb : w.heap[b]? = some (.cells cur.toArray 45 (0, 0))) (hz : w.heap.size = b + 1)
    (hE : w.cell? ⟨2, 0, none⟩ = some (.iface 58 (.pointer (some a2)))) (hU : w.cell? ⟨3, 0, none⟩ = some (.iface 58 (.pointer (some a3)))) :
    Calls Tryf.prog 18 #[.iface 25 (.pointer (some ⟨R, 0, none⟩)), .slice (some ⟨b, 0, none⟩) 9 9, .int .i64 9] w fun e w' => e = .returned (.tuple #[.int .i64 X.length, .iface 58 (.pointer (some a3))]) ∧
      w'.heap[R]? = some (.cells #[.slice (some ⟨g, 0, none⟩) n n, .int .i64 n, .int .i64 (-1)] 42 (0, 0)) ∧ Kept [R, b] w w' := by
  have hlX : Hid ((i : Int) + X.length = n) := by show _ = _; rw [hX.out]; simp; omega
  have hX1 : 1 ≤ X.length := by have := hlX.out; omega
  have hX8 : X.length < 9 := by have := hlX.out; omega
  have HR : Hid (w.heap[R]? = some (.cells #[.slice (some ⟨g, 0, none⟩) n n, .int .i64 i, .int .i64 p] 42 (0, 0))) := hR
  have Hg : Hid (w.heap[g]? = some (.cells (xs.map (Value.int .u8)).toArray 5 (0, 0))) := hg
  have Hb : Hid (w.heap[b]? = some (.cells cur.toArray 45 (0, 0))) := hb
  have Hz : Hid (w.heap.size = b + 1) := hz
  have Hn : Hid (xs.length = n) := hn
  have HE : Hid (w.cell? ⟨2, 0, none⟩ = some (.iface 58 (.pointer (some a2)))) := hE
  have HU : Hid (w.cell? ⟨3, 0, none⟩ = some (.iface 58 (.pointer (some a3)))) := hU
  have k1 := nil_ahead
  have k2 := method_read
  have k3 := eql_same a2
  clear hR hg hb hz hn hE hU
  go_enter Tryf.func18, Tryf.ntmps18
  go_wp2
  refine wp_loop_rounds 3 ?_
  rw [rounds_succ]
  go_wp2_with fail
  go_region_with (go_at_call 36; refine (read_some R g b i n xs p cur X _ Hn.out (by omega) hxs hcur hRb hgb hRg hX (by exact HR.out) (by exact Hg.out) (by exact Hb.out) (by exact Hz.out)).mono ?_; rintro e w1 ⟨rfl, hb1, hR1, hk1⟩; rw [hlX.out] at hR1; have HR1 : Hid (w1.heap[R]? = some (.cells #[.slice (some ⟨g, 0, none⟩) n n, .int .i64 n, .int .i64 (-1)] 42 (0, 0))) := hR1; clear hb1 hR1)
  have HE1 := hk1.cell HE.out (by simp; omega)
  have HU1 := hk1.cell HU.out (by simp; omega)
  have h9 : ¬ 9 = X.length := by omega
  go_wp2
  rw [rounds_succ]
  go_wp2_with fail
  go_region_with (go_at_call 36; refine (read_eof R (some ⟨g, 0, none⟩) n n (-1) _ _ _ a2 _ hxs (by exact HR1.out) (by exact HE1)).mono ?_; rintro e w' ⟨rfl, q, rfl⟩)
  all_goals
    go_wp2
    rw [rounds_succ]
    go_wp2
    go_ret2
    exact ⟨rfl, HR1.out, ((Kept.refl _ _).drew.trans hk1).drewN _⟩

end Go.Proofs.Qxb6614263aFmt
