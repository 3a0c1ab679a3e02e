/- The proof of 'Rows.FnGrainsGrowByOneForEachGrainAnAskWaitsSaid', on the frame that the kit's tool wrote for it; its last step says 'Below' for 'Grown'. -/
import Derived.Test.Qxb6605855aRows
import Derived.WalkKit
import Derived.ProofKit
import Derived.OpenShut
import Derived.ShutString
import Derived.Test.Qxb6605855aLate
namespace Go.Proofs.Qxb6605855a.fnGrainsGrowByOneForEachGrainAnAskWaits
open Go.ChangeShapes Go.WideShapes Go.ChangeAt Go.RowKit
open Go.ChangeMaps (open_string shut_string)
set_option linter.unusedVariables false      -- a walk need not use every 'w<i>' (that an integer argument fits its kind)

theorem own : ownKnob Try.prog.godebug = none := by kernel_rfl

/-! ### THE WALK: the Go text returns true; what was there stays. -/
set_option maxHeartbeats 400000 in
theorem main (a0 : Bool) (a1 a2 a3 a4 a5 a6 a7 a8 : Int) (b1 : -9223372036854775808 ≤ a1 ∧ a1 ≤ 9223372036854775807) (b3 : -9223372036854775808 ≤ a3 ∧ a3 ≤ 9223372036854775807) (b6 : -9223372036854775808 ≤ a6 ∧ a6 ≤ 9223372036854775807) (b8 : -9223372036854775808 ≤ a8 ∧ a8 ≤ 9223372036854775807)
    (c1 : ¬ a1 = 0) (c2 : a8 ≤ 9223372036849775807) (c3 : a8 - a1 ≤ 9223372036849775807) (c4 : 0 ≤ a8 - a1) (c5 : a7 ≤ a8 - a1) (w : World) :
    Calls Try.prog 4 #[.bool a0, .int .i64 a1, .int .u64 a2, .int .i64 a3, .int .u64 a4, .int .u64 a5, .int .i64 a6, .int .i64 a7, .int .i64 a8] w fun e w' => e = .returned (.bool true) ∧ Kept [] w w' := by
  have e1 : (a1 == 0) = false := beq_eq_false_iff_ne.2 c1
  have e2 : decide (0 ≤ (a8 - a1) / 5000000) = true := by simp; omega
  have e3 : decide ((a8 - a1) / 5000000 < 9223372036854775807) = true := by simp; omega
  have e4 : ((a8 + 5000000 - a1) / 5000000 == (a8 - a1) / 5000000 + 1) = true := beq_iff_eq.2 (by omega)
  have g0 : 0 ≤ (a8 - a1) / 5000000 := by omega
  have g1 : (a8 - a1) / 5000000 ≤ 9223372036854 := by omega
  have HC : Hid (¬ a1 = 0) := c1
  clear c1
  rcases Int.lt_or_le a1 0 with hs | hs
  all_goals
    go_enter Try.func4, Try.ntmps4
    go_wp2_with fail
    refine (newAsks_any a0 a1 a2 a3 a4 a5 a6 a7 _ b1.1 b1.2 b3.1 b3.2 b6.1 b6.2).mono ?_
    rintro e w1 ⟨B, rfl, hB, hk1⟩
    have HB : Hid (w1.heap[B]? = some (.cells #[.bool a0, .int .u64 (nano a1), .int .i64 (secs a1), .pointer none, .int .u64 a2, .int .u64 (nano a3), .int .i64 (secs a3), .pointer none, .int .u64 a4, .int .u64 a5, .int .u64 (nano a6), .int .i64 (secs a6), .pointer none, .int .i64 a7] 70 (0, 0))) := hB
    clear hB
    go_wp2_with fail
    refine (zzGrains_any B a1 a7 a8 _ HC.out b1.1 b1.2 b8.1 b8.2 c4 (by omega) c5 (cell_at HB.out rfl) (cell_at HB.out rfl) (cell_at HB.out rfl) (cell_at HB.out rfl)).mono ?_
    rintro e w2 ⟨rfl, hk2⟩
    have HB2 := hk2.lies HB.out (by simp)
    have HB3 : Hid (w2.heap[B]? = some (.cells #[.bool a0, .int .u64 (nano a1), .int .i64 (secs a1), .pointer none, .int .u64 a2, .int .u64 (nano a3), .int .i64 (secs a3), .pointer none, .int .u64 a4, .int .u64 a5, .int .u64 (nano a6), .int .i64 (secs a6), .pointer none, .int .i64 a7] 70 (0, 0))) := HB2
    clear HB2
    go_wp2_with fail
    refine (zzGrains_any B a1 a7 (a8 + 5000000) _ HC.out b1.1 b1.2 (by omega) (by omega) (by omega) (by omega) (by omega) (cell_at HB3.out rfl) (cell_at HB3.out rfl) (cell_at HB3.out rfl) (cell_at HB3.out rfl)).mono ?_
    rintro e w3 ⟨rfl, hk3⟩
    go_wp2
    go_ret
    exact ⟨rfl, (hk1.trans hk2).trans hk3⟩

theorem walk (a0 : Bool) (a1 : Int) (a2 : Int) (a3 : Int) (a4 : Int) (a5 : Int) (a6 : Int) (a7 : Int) (a8 : Int) (w1 : (Lit.int .i64 a1).wf = true) (w2 : (Lit.int .u64 a2).wf = true) (w3 : (Lit.int .i64 a3).wf = true) (w4 : (Lit.int .u64 a4).wf = true) (w5 : (Lit.int .u64 a5).wf = true) (w6 : (Lit.int .i64 a6).wf = true) (w7 : (Lit.int .i64 a7).wf = true) (w8 : (Lit.int .i64 a8).wf = true) (w : World) :
    Calls Try.prog 4 #[.bool a0, .int .i64 a1, .int .u64 a2, .int .i64 a3, .int .u64 a4, .int .u64 a5, .int .i64 a6, .int .i64 a7, .int .i64 a8] w fun e w' => e = .returned (.bool true) ∧ Kept [] w w' := by
  have b1 := bounds_i64 w1
  have b3 := bounds_i64 w3
  have b6 := bounds_i64 w6
  have b7 := bounds_i64 w7
  have b8 := bounds_i64 w8
  clear w1 w2 w3 w4 w5 w6 w7 w8
  by_cases c1 : a1 = 0
  · subst c1
    go_enter Try.func4, Try.ntmps4
    go_wp2
    go_ret
    exact ⟨rfl, Kept.refl _ _⟩
  · have e1 : (a1 == 0) = false := beq_eq_false_iff_ne.2 c1
    by_cases c2 : 9223372036849775807 < a8
    · clear c1
      go_enter Try.func4, Try.ntmps4
      go_wp2
      go_ret
      exact ⟨rfl, Kept.refl _ _⟩
    · rcases Int.lt_or_le a1 0 with hs | hs
      · by_cases c3 : 9223372036854775807 + a1 < a8
        · clear c1
          go_enter Try.func4, Try.ntmps4
          go_wp2
          go_ret
          exact ⟨rfl, Kept.refl _ _⟩
        · by_cases c4 : a8 - a1 < 0
          · clear c1
            go_enter Try.func4, Try.ntmps4
            go_wp2
            go_ret
            exact ⟨rfl, Kept.refl _ _⟩
          · by_cases c5 : a8 - a1 < a7
            · clear c1
              go_enter Try.func4, Try.ntmps4
              go_wp2
              go_ret
              exact ⟨rfl, Kept.refl _ _⟩
            · by_cases c6 : 9223372036849775807 < a8 - a1
              · clear c1
                go_enter Try.func4, Try.ntmps4
                go_wp2
                go_ret
                exact ⟨rfl, Kept.refl _ _⟩
              · exact main a0 a1 a2 a3 a4 a5 a6 a7 a8 b1 b3 b6 b8 c1 (by omega) (by omega) (by omega) (by omega) w
      · have hs' : 0 < a1 := by omega
        by_cases c3 : a8 < -9223372036854775808 + a1
        · clear c1
          go_enter Try.func4, Try.ntmps4
          go_wp2
          go_ret
          exact ⟨rfl, Kept.refl _ _⟩
        · by_cases c4 : a8 - a1 < 0
          · clear c1
            go_enter Try.func4, Try.ntmps4
            go_wp2
            go_ret
            exact ⟨rfl, Kept.refl _ _⟩
          · by_cases c5 : a8 - a1 < a7
            · clear c1
              go_enter Try.func4, Try.ntmps4
              go_wp2
              go_ret
              exact ⟨rfl, Kept.refl _ _⟩
            · by_cases c6 : 9223372036849775807 < a8 - a1
              · omega
              · exact main a0 a1 a2 a3 a4 a5 a6 a7 a8 b1 b3 b6 b8 c1 (by omega) (by omega) (by omega) (by omega) w

/-! ### THE ROW's STEP: WRITTEN OUT: LEAVE IT -/
set_option maxRecDepth 100000 in
theorem lifted (os : Os) (started : os.Started) (H : Type) (enc : TypeId × Value → H) :
    ReturnsInHanded {} Try.checked os 4 .any (Rows.fnGrainsGrowByOneForEachGrainAnAskWaitsSpec.pre6 enc Try.prog Try.f4 Rows.fnGrainsGrowByOneForEachGrainAnAskWaitsRow.domain false) (Rows.fnGrainsGrowByOneForEachGrainAnAskWaitsSpec.post enc Try.prog Try.f4 false true false false) := by
  refine returnsInHanded_of_change (C := Try.checked) own started (by kernel_rfl) Try.func4
    (ChangeSpec.witness6 (enc := enc) (C := Try.checked) false ⟨#[], #[.bool false, .int .i64 0, .int .u64 0, .int .i64 0, .int .u64 0, .int .u64 0, .int .i64 0, .int .i64 0, .int .i64 0], []⟩ 8 (by kernel_rfl) (by kernel_rfl) (by kernel_rfl) (by kernel_rfl)) ?_
  intro W base args ds gs before hval0 hW hcnd _
  have hval : ∀ (j : Nat) t v, Try.f4.params[j]? = some t → args[j]? = some v → Value.okWide Try.prog W .any base t v := hval0
  have hW' := hW
  obtain ⟨p, q, hA0, hV, rfl, hfz, hnd⟩ := hW
  have hA : DataW.TrodAll enc Try.prog W 0 (fun _ => true) true Try.f4.params.toList args.toList ds p := hA0
  rw [Try.params4] at hA hval
  obtain ⟨v0, vs0, d0, ds0, p0, q0, hargs, rfl, rfl, h0, r0⟩ := trodAll_cons hA
  obtain ⟨v1, vs1, d1, ds1, p1, q1, rfl, rfl, rfl, h1, r1⟩ := trodAll_cons r0
  obtain ⟨v2, vs2, d2, ds2, p2, q2, rfl, rfl, rfl, h2, r2⟩ := trodAll_cons r1
  obtain ⟨v3, vs3, d3, ds3, p3, q3, rfl, rfl, rfl, h3, r3⟩ := trodAll_cons r2
  obtain ⟨v4, vs4, d4, ds4, p4, q4, rfl, rfl, rfl, h4, r4⟩ := trodAll_cons r3
  obtain ⟨v5, vs5, d5, ds5, p5, q5, rfl, rfl, rfl, h5, r5⟩ := trodAll_cons r4
  obtain ⟨v6, vs6, d6, ds6, p6, q6, rfl, rfl, rfl, h6, r6⟩ := trodAll_cons r5
  obtain ⟨v7, vs7, d7, ds7, p7, q7, rfl, rfl, rfl, h7, r7⟩ := trodAll_cons r6
  obtain ⟨v8, vs8, d8, ds8, p8, q8, rfl, rfl, rfl, h8, r8⟩ := trodAll_cons r7
  obtain ⟨rfl, rfl, rfl⟩ := trodAll_nil r8
  obtain rfl : args = #[v0, v1, v2, v3, v4, v5, v6, v7, v8] := by cases args; simp_all
  obtain ⟨rfl, rfl⟩ := trodVars_none hV
  obtain ⟨a0, rfl, rfl, rfl⟩ := open_bool Try.underlying4 (hval 0 4 v0 rfl rfl) h0
  obtain ⟨a1, rfl, rfl, rfl, w1⟩ := open_int Try.underlying2 (hval 1 2 v1 rfl rfl) h1
  obtain ⟨a2, rfl, rfl, rfl, w2⟩ := open_int Try.underlying22 (hval 2 22 v2 rfl rfl) h2
  obtain ⟨a3, rfl, rfl, rfl, w3⟩ := open_int Try.underlying2 (hval 3 2 v3 rfl rfl) h3
  obtain ⟨a4, rfl, rfl, rfl, w4⟩ := open_int Try.underlying22 (hval 4 22 v4 rfl rfl) h4
  obtain ⟨a5, rfl, rfl, rfl, w5⟩ := open_int Try.underlying22 (hval 5 22 v5 rfl rfl) h5
  obtain ⟨a6, rfl, rfl, rfl, w6⟩ := open_int Try.underlying2 (hval 6 2 v6 rfl rfl) h6
  obtain ⟨a7, rfl, rfl, rfl, w7⟩ := open_int Try.underlying2 (hval 7 2 v7 rfl rfl) h7
  obtain ⟨a8, rfl, rfl, rfl, w8⟩ := open_int Try.underlying2 (hval 8 2 v8 rfl rfl) h8
  clear hA0 hval0
  simp only [List.append_nil] at hW'
  refine (walk a0 a1 a2 a3 a4 a5 a6 a7 a8 w1 w2 w3 w4 w5 w6 w7 w8 W).mono fun e W' ⟨he, hg⟩ => ?_
  subst he
  have bel : Below W.heap.size W W' := hg.toBelow (by simp) (Nat.le_refl _)
  refine ⟨_, rfl, _, _, _, [], [], [], hW', ?_, ?_, rfl, bel.frame _, fun h => by cases h⟩
  · exact trodAll_cons_mk (shut_bool Try.underlying4 _) trodAll_mk0
  · exact (trodAll_cons_mk (shut_bool Try.underlying4 _) (trodAll_cons_mk (shut_int Try.underlying2 w1) (trodAll_cons_mk (shut_int Try.underlying22 w2) (trodAll_cons_mk (shut_int Try.underlying2 w3) (trodAll_cons_mk (shut_int Try.underlying22 w4) (trodAll_cons_mk (shut_int Try.underlying22 w5) (trodAll_cons_mk (shut_int Try.underlying2 w6) (trodAll_cons_mk (shut_int Try.underlying2 w7) (trodAll_cons_mk (shut_int Try.underlying2 w8) trodAll_mk0)))))))))

theorem over : Rows.fnGrainsGrowByOneForEachGrainAnAskWaitsRow.holds Try.pinned (OpenSpec.ofChange Rows.fnGrainsGrowByOneForEachGrainAnAskWaitsSpec) :=
  OpenClaim.holds_of_wide 4 Try.f4 rfl rfl rfl rfl rfl rfl rfl ⟨rfl, rfl, rfl, rfl, rfl⟩ rfl rfl rfl rfl rfl (by kernel_rfl) Try.func4 (by kernel_rfl)
    (of_decide_eq_true (by kernel_rfl)) (by unfold Func.isWrapper; first | (rw [if_pos (by decide +kernel)]; kernel_rfl) | (rw [if_neg (by decide +kernel)]; exact ⟨rfl, rfl⟩))
    (fun os started H enc _ => lifted os started H enc)

/-- ████ THE STATEMENT ████ -/
theorem proved : Rows.FnGrainsGrowByOneForEachGrainAnAskWaitsSaid :=
  over
end Go.Proofs.Qxb6605855a.fnGrainsGrowByOneForEachGrainAnAskWaits
