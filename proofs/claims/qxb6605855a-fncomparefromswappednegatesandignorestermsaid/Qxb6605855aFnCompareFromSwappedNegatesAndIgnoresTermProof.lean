/- The proof of 'Rows.FnCompareFromSwappedNegatesAndIgnoresTermSaid', on the frame that the kit's tool wrote for it. -/
import Derived.Test.Qxb6605855aRows
import Derived.WalkKit
import Derived.ProofKit
import Derived.OpenShut
import Derived.ShutString
namespace Go.Proofs.Qxb6605855a.fnCompareFromSwappedNegatesAndIgnoresTerm
open Go.ChangeShapes Go.WideShapes Go.ChangeAt Go.RowKit
open Go.ChangeMaps (open_string shut_string)
set_option linter.unusedVariables false      -- a walk need not use every 'w<i>' (that an integer argument fits its kind)

theorem own : ownKnob Try.prog.godebug = none := by kernel_rfl

/-! ### THE PLAIN FUNCTION: what cmp.Compare answers at two whole numbers -/
def cmpv (x y : Int) : Int := if x < y then -1 else if y < x then 1 else 0

/-! ### THE CALLEES -/
theorem ret_int {k : IntKind} {a b : Int} (h : a = b) : Ending.returned (.int k a) = .returned (.int k b) := by rw [h]

theorem grown_trans {a b c : World} (h1 : Grown a b) (h2 : Grown b c) : Grown a c :=
  ⟨World.keptBut_trans h1.1 h2.1, fun x => (h2.2.1 x).trans (h1.2.1 x), Nat.le_trans h1.2.2 h2.2.2⟩

theorem newRun_any (x y : Int) (w : World) :
    Calls Try.prog 8 #[.int .u64 x, .int .u64 y] w fun e w' => e = .returned (.agg #[.int .u64 x, .int .u64 y]) ∧ Grown w w' := by
  go_enter Try.func8, Try.ntmps8
  go_wp2
  exact bodyPost_ret (v := .agg #[.int .u64 x, .int .u64 y]) (by simp [results, Try.results8, go_sem]) rfl ⟨rfl, by repeat (first | exact Grown.refl _ | apply Grown.drew | apply Grown.alloc)⟩

theorem nan_any (x : Int) (w : World) :
    Calls Try.prog 50 #[.int .u64 x] w fun e w' => e = .returned (.bool false) ∧ w' = w := by
  go_enter Try.func50, Try.ntmps50
  go_wp2
  go_ret
  exact ⟨rfl, rfl⟩

theorem compare_any (x y : Int) (w : World) :
    Calls Try.prog 40 #[.int .u64 x, .int .u64 y] w fun e w' => e = .returned (.int .i64 (cmpv x y)) ∧ w' = w := by
  rcases Int.lt_trichotomy x y with h | h | h
  · go_enter Try.func40, Try.ntmps40
    go_wp2_with (go_at_call 50; refine (nan_any _ _).mono ?_; rintro e w' ⟨rfl, rfl⟩)
    go_ret
    exact ⟨ret_int (by unfold cmpv; rw [if_pos h]), rfl⟩
  · subst h
    go_enter Try.func40, Try.ntmps40
    go_wp2_with (go_at_call 50; refine (nan_any _ _).mono ?_; rintro e w' ⟨rfl, rfl⟩)
    go_ret
    exact ⟨ret_int (by unfold cmpv; rw [if_neg (by omega), if_neg (by omega)]), rfl⟩
  · go_enter Try.func40, Try.ntmps40
    go_wp2_with (go_at_call 50; refine (nan_any _ _).mono ?_; rintro e w' ⟨rfl, rfl⟩)
    go_ret
    exact ⟨ret_int (by unfold cmpv; rw [if_neg (by omega), if_pos h]), rfl⟩

theorem cmp29_any (x y z : Int) (w : World) :
    Calls Try.prog 29 #[.agg #[.int .u64 x, .int .u64 y], .int .u64 z] w fun e w' => e = .returned (.int .i64 (cmpv x z)) ∧ Grown w w' := by
  go_enter Try.func29, Try.ntmps29
  go_wp2_with (go_at_call 40; refine (compare_any _ _ _).mono ?_; rintro e w' ⟨rfl, rfl⟩)
  go_ret
  exact ⟨rfl, by repeat (first | exact Grown.refl _ | apply Grown.drew | apply Grown.alloc)⟩

theorem cmp7_any (x y z : Int) (w : World) :
    Calls Try.prog 7 #[.agg #[.int .u64 x, .int .u64 y], .int .u64 z] w fun e w' => e = .returned (.int .i64 (cmpv x z)) ∧ Grown w w' := by
  go_enter Try.func7, Try.ntmps7
  go_wp2_with (go_at_call 29; refine (cmp29_any _ _ _ _).mono ?_; rintro e w' ⟨rfl, hg⟩)
  go_ret
  exact ⟨rfl, grown_trans ((Grown.refl _).alloc _ _) hg⟩

/-! ### STEP 1: THE WALK: the Go text returns true. 'Grown w w'': the world has at most new blocks (Derived/RowKit3.lean). Part the cases AHEAD of 'go_enter' where a test parts the walk; take each callee by a contract of your own. -/
theorem walk (a0 : Int) (a1 : Int) (a2 : Int) (a3 : Int) (w0 : (Lit.int .u64 a0).wf = true) (w1 : (Lit.int .u64 a1).wf = true) (w2 : (Lit.int .u64 a2).wf = true) (w3 : (Lit.int .u64 a3).wf = true) (w : World) :
    Calls Try.prog 3 #[.int .u64 a0, .int .u64 a1, .int .u64 a2, .int .u64 a3] w fun e w' => e = .returned (.bool true) ∧ Grown w w' := by
  rcases Int.lt_trichotomy a0 a2 with h | h | h
  · have g1 : cmpv a0 a2 = -1 := by unfold cmpv; rw [if_pos h]
    have g2 : cmpv a2 a0 = 1 := by unfold cmpv; rw [if_neg (by omega), if_pos (by omega)]
    have g3 : (a0 == a2) = false := beq_eq_false_iff_ne.2 (by omega)
    clear h
    go_enter Try.func3, Try.ntmps3
    go_wp2_with (first | (go_at_call 8; refine (newRun_any _ _ _).mono ?_; rintro e w' ⟨rfl, hg⟩) | (go_at_call 7; refine (cmp7_any _ _ _ _).mono ?_; rintro e w' ⟨rfl, hg⟩))
    go_ret
    exact ⟨rfl, by repeat (first | exact Grown.refl _ | assumption | refine grown_trans ?_ (by assumption))⟩
  · subst h
    have g1 : cmpv a0 a0 = 0 := by unfold cmpv; rw [if_neg (by omega), if_neg (by omega)]
    go_enter Try.func3, Try.ntmps3
    go_wp2_with (first | (go_at_call 8; refine (newRun_any _ _ _).mono ?_; rintro e w' ⟨rfl, hg⟩) | (go_at_call 7; refine (cmp7_any _ _ _ _).mono ?_; rintro e w' ⟨rfl, hg⟩))
    go_ret
    exact ⟨rfl, by repeat (first | exact Grown.refl _ | assumption | refine grown_trans ?_ (by assumption))⟩
  · have g1 : cmpv a0 a2 = 1 := by unfold cmpv; rw [if_neg (by omega), if_pos (by omega)]
    have g2 : cmpv a2 a0 = -1 := by unfold cmpv; rw [if_pos h]
    have g3 : (a0 == a2) = false := beq_eq_false_iff_ne.2 (by omega)
    clear h
    go_enter Try.func3, Try.ntmps3
    go_wp2_with (first | (go_at_call 8; refine (newRun_any _ _ _).mono ?_; rintro e w' ⟨rfl, hg⟩) | (go_at_call 7; refine (cmp7_any _ _ _ _).mono ?_; rintro e w' ⟨rfl, hg⟩))
    go_ret
    exact ⟨rfl, by repeat (first | exact Grown.refl _ | assumption | refine grown_trans ?_ (by assumption))⟩

/-! ### THE ROW's STEP: WRITTEN OUT: LEAVE IT -/
set_option maxRecDepth 100000 in
theorem lifted (os : Os) (started : os.Started) (H : Type) (enc : TypeId × Value → H) :
    ReturnsInHanded {} Try.checked os 3 .any (Rows.fnCompareFromSwappedNegatesAndIgnoresTermSpec.pre6 enc Try.prog Try.f3 Rows.fnCompareFromSwappedNegatesAndIgnoresTermRow.domain false) (Rows.fnCompareFromSwappedNegatesAndIgnoresTermSpec.post enc Try.prog Try.f3 false true false false) := by
  refine returnsInHanded_of_change (C := Try.checked) own started (by kernel_rfl) Try.func3
    (ChangeSpec.witness6 (enc := enc) (C := Try.checked) false ⟨#[], #[.int .u64 0, .int .u64 0, .int .u64 0, .int .u64 0], []⟩ 8 (by kernel_rfl) (by kernel_rfl) (by kernel_rfl) (by kernel_rfl)) ?_
  intro W base args ds gs before hval0 hW hcnd _
  have hval : ∀ (j : Nat) t v, Try.f3.params[j]? = some t → args[j]? = some v → Value.okWide Try.prog W .any base t v := hval0
  have hW' := hW
  obtain ⟨p, q, hA0, hV, rfl, hfz, hnd⟩ := hW
  have hA : DataW.TrodAll enc Try.prog W 0 (fun _ => true) true Try.f3.params.toList args.toList ds p := hA0
  rw [Try.params3] at hA hval
  obtain ⟨v0, vs0, d0, ds0, p0, q0, hargs, rfl, rfl, h0, r0⟩ := trodAll_cons hA
  obtain ⟨v1, vs1, d1, ds1, p1, q1, rfl, rfl, rfl, h1, r1⟩ := trodAll_cons r0
  obtain ⟨v2, vs2, d2, ds2, p2, q2, rfl, rfl, rfl, h2, r2⟩ := trodAll_cons r1
  obtain ⟨v3, vs3, d3, ds3, p3, q3, rfl, rfl, rfl, h3, r3⟩ := trodAll_cons r2
  obtain ⟨rfl, rfl, rfl⟩ := trodAll_nil r3
  obtain rfl : args = #[v0, v1, v2, v3] := by cases args; simp_all
  obtain ⟨rfl, rfl⟩ := trodVars_none hV
  obtain ⟨a0, rfl, rfl, rfl, w0⟩ := open_int Try.underlying22 (hval 0 22 v0 rfl rfl) h0
  obtain ⟨a1, rfl, rfl, rfl, w1⟩ := open_int Try.underlying22 (hval 1 22 v1 rfl rfl) h1
  obtain ⟨a2, rfl, rfl, rfl, w2⟩ := open_int Try.underlying22 (hval 2 22 v2 rfl rfl) h2
  obtain ⟨a3, rfl, rfl, rfl, w3⟩ := open_int Try.underlying22 (hval 3 22 v3 rfl rfl) h3
  clear hA0 hval0
  simp only [List.append_nil] at hW'
  refine (walk a0 a1 a2 a3 w0 w1 w2 w3 W).mono fun e W' ⟨he, hg⟩ => ?_
  subst he
  exact ⟨_, rfl, post_of_same (pa := []) (pv := []) hW' (fun _ _ _ => (trodAll_cons_mk (shut_bool Try.underlying4 _) trodAll_mk0)) (fun sp _ => (trodAll_cons_mk (shut_int Try.underlying22 w0) (trodAll_cons_mk (shut_int Try.underlying22 w1) (trodAll_cons_mk (shut_int Try.underlying22 w2) (trodAll_cons_mk (shut_int Try.underlying22 w3) trodAll_mk0))))) (fun _ _ => rfl) rfl
    (hg.frame _) hg.2.1 (ok_one (by kernel_rfl) rfl (okWide_bool_mk Try.underlying4 _))⟩

theorem over : Rows.fnCompareFromSwappedNegatesAndIgnoresTermRow.holds Try.pinned (OpenSpec.ofChange Rows.fnCompareFromSwappedNegatesAndIgnoresTermSpec) :=
  OpenClaim.holds_of_wide 3 Try.f3 rfl rfl rfl rfl rfl rfl rfl ⟨rfl, rfl, rfl, rfl, rfl⟩ rfl rfl rfl rfl rfl (by kernel_rfl) Try.func3 (by kernel_rfl)
    (of_decide_eq_true (by kernel_rfl)) (by unfold Func.isWrapper; first | (rw [if_pos (by decide +kernel)]; kernel_rfl) | (rw [if_neg (by decide +kernel)]; exact ⟨rfl, rfl⟩))
    (fun os started H enc _ => lifted os started H enc)

/-- ████ THE STATEMENT ████ -/
theorem proved : Rows.FnCompareFromSwappedNegatesAndIgnoresTermSaid :=
  over
end Go.Proofs.Qxb6605855a.fnCompareFromSwappedNegatesAndIgnoresTerm
