/-
  readHeader over a *bytes.Reader: the header that announces too long a body.
-/
import Derived.Test.Qxb6614263aFmtHead
namespace Go.Proofs.Qxb6614263aFmt
open Go Go.RowKit Go.Extern.Stop Go.Stop Go.Extern
set_option linter.unusedVariables false

theorem three_a (w : World) (o1 o2 o3 : Obj) : (((w.alloc o1).alloc o2).alloc o3).heap[w.heap.size + 1 + 1]? = some o3 := by
  have h := block_new ((w.alloc o1).alloc o2) o3
  rw [size_two] at h
  exact h
theorem three_b (w : World) (o1 o2 o3 : Obj) : (((w.alloc o1).alloc o2).alloc o3).heap[w.heap.size + 1]? = some o2 := by
  rw [Below.heap_alloc _ _ _ (by simp)]
  exact block_two w o1 o2
theorem three_c (w : World) (o1 o2 o3 : Obj) : (((w.alloc o1).alloc o2).alloc o3).heap[w.heap.size]? = some o1 := by
  rw [Below.heap_alloc _ _ _ (by simp; omega)]
  exact block_first w o1 o2

set_option maxHeartbeats 800000 in
theorem head_big (F : Interp) (R g i n : Nat) (xs : List Int) (p : Int) (w : World) (hF : F.answers w.tape) (hn : xs.length = n) (hlt : i + 9 ≤ n) (hxs : n ≤ 1048576) (h3R : 3 < R) (hRg : R ≠ g)
    (x : Nat → Int) (hx : ∀ j, 0 ≤ x j ∧ x j < 256) (hxe : Hid (∀ j, x j = xs.getD (i + j) 0))
    (hR : w.heap[R]? = some (.cells #[.slice (some ⟨g, 0, none⟩) n n, .int .i64 i, .int .i64 p] 42 (0, 0)))
    (hg : w.heap[g]? = some (.cells (xs.map (Value.int .u8)).toArray 5 (0, 0)))
    (hl : 1048576 < be (x 1) (x 2) (x 3) (x 4)) :
    Calls Tryf.prog 13 #[.iface 25 (.pointer (some ⟨R, 0, none⟩))] w fun e w' => (∃ a, e = .returned (.tuple #[.agg #[.int .u8 (x 0), .int .u32 (be (x 1) (x 2) (x 3) (x 4)), .int .i32 (sg (be (x 5) (x 6) (x 7) (x 8)))], .iface 58 (.pointer (some a))])) ∧
      w'.heap[R]? = some (.cells #[.slice (some ⟨g, 0, none⟩) n n, .int .i64 ((i : Int) + 9), .int .i64 (-1)] 42 (0, 0)) ∧ Kept [R] w w' := by
  have hRb : R < w.heap.size + 1 := by have := lt_of_block hR; omega
  have hgb : g < w.heap.size + 1 := by have := lt_of_block hg; omega
  have HR : Hid (∀ W, Kept [] w W → W.heap[R]? = some (.cells #[.slice (some ⟨g, 0, none⟩) n n, .int .i64 i, .int .i64 p] 42 (0, 0))) := fun W k => k.lies hR (by simp)
  have Hg : Hid (∀ W, Kept [] w W → W.heap[g]? = some (.cells (xs.map (Value.int .u8)).toArray 5 (0, 0))) := fun W k => k.lies hg (by simp)
  have Hn : Hid (xs.length = n) := hn
  have hRlt : R < w.heap.size := lt_of_block hR
  have HF : Hid (F.answers w.tape) := hF
  have HX : Hid (∀ j, 0 ≤ x j ∧ x j < 256) := hx
  have hsg : IntKind.i32.wrap (be (x 5) (x 6) (x 7) (x 8)) = sg (be (x 5) (x 6) (x 7) (x 8)) := sg_wrap _ (be_bounds (hx _) (hx _) (hx _) (hx _)).1 (be_bounds (hx _) (hx _) (hx _) (hx _)).2
  clear hR hg hn hx hF
  go_enter Tryf.func13, Tryf.ntmps13
  go_wp2_with (first | (go_at_call 18; refine (atLeast_nine R g (w.heap.size + 1) i n xs p nine _ _ Hn.out hlt hxs rfl hRb hgb hRg rfl (by exact HR.out _ (((Kept.refl _ _).alloc _).alloc _)) (by exact Hg.out _ (((Kept.refl _ _).alloc _).alloc _)) (by exact block_two _ _ _) (by exact size_two _ _ _)).mono ?_; rintro e w1 ⟨rfl, hb1, hR1, hk1⟩; have HR1 : Hid (w1.heap[R]? = some (.cells #[.slice (some ⟨g, 0, none⟩) n n, .int .i64 ((i : Int) + 9), .int .i64 (-1)] 42 (0, 0))) := hR1; have HC : Hid (∀ W, Kept [] w1 W → ∀ j, j < 9 → W.cell? ⟨w.heap.size + 1, j, none⟩ = some (.int .u8 (x j))) := (fun W k j hj => by rw [hxe.out j]; exact k.cell (nine_cells xs i (by rw [Hn.out]; omega) w1 _ hb1 j hj) (by simp)); have HK1 := (((Kept.refl _ _).alloc _).alloc _).trans hk1 |>.mono (S' := [R]) (by simp); clear hR1 hb1; have HN : w1.heap[w.heap.size]? = some (.cells #[.int .u8 0, .int .u32 0, .int .i32 0] 37 (0, 0)) := hk1.lies (block_first _ _ _) (by simp; omega); have d0 := cell_at (o := 0) HN rfl; have d1 := cell_at (o := 1) HN rfl; have d2 := cell_at (o := 2) HN rfl; have e0 := free_at (o := 0) HN; have e1 := free_at (o := 1) HN; have e2 := free_at (o := 2) HN; have hz1 : w.heap.size < w1.heap.size := lt_of_block HN; have hz2 : w.heap.size < w1.heap.size + 1 := Nat.lt_succ_of_lt hz1; have hz3 : w.heap.size < w1.heap.size + 1 + 1 := Nat.lt_succ_of_lt hz2; clear HN) | (go_at_call 15; go_in))
  go_cut [7] from 18 to 27 (fun s7 wx => ∃ H, s7 = .pointer (some ⟨H, 0, none⟩) ∧ wx.heap[H]? = some (.cells #[.int .u8 (x 0), .int .u32 (be (x 1) (x 2) (x 3) (x 4)), .int .i32 (sg (be (x 5) (x 6) (x 7) (x 8)))] 37 (0, 0)) ∧ w1.heap.size ≤ H ∧ Kept [] w1 wx)
  case first =>
    have c0 := HC.out w1 (Kept.refl _ _) 0 (by omega)
    have n0 := World.new_ne w1 _ c0
    go_region_held3 (fun W => W.cell? ⟨w.heap.size + 1, 0, none⟩ = some (.int .u8 (x 0))) (exact HC.out _ (by repeat (first | exact Kept.refl _ _ | apply Kept.drew | apply Kept.alloc | refine Kept.setCell ?_ (Or.inr (by simp)) _)) 0 (by omega))
      (first | (go_at_call 16; refine (uint32_off (w.heap.size + 1) _ _ x _ (by omega) HX.out (HC.out _ (by repeat (first | exact Kept.refl _ _ | apply Kept.drew | apply Kept.alloc)))).mono ?_; rintro e w' ⟨rfl, rfl⟩))
    all_goals
      clear c0 n0
      go_wp2_with fail
      go_meet
      first
        | exact ⟨_, rfl, three_a _ _ _ _, by omega, ((((((Kept.refl _ _).alloc _).alloc _).alloc _).drew).drew).drew⟩
        | exact ⟨_, rfl, three_b _ _ _ _, by omega, ((((((Kept.refl _ _).alloc _).alloc _).alloc _).drew).drew).drew⟩
        | exact ⟨_, rfl, three_c _ _ _ _, by omega, ((((((Kept.refl _ _).alloc _).alloc _).alloc _).drew).drew).drew⟩
  case rest =>
    obtain ⟨H, rfl, hH, hle, hk⟩ := hcut
    have HH : Hid (∀ W, Kept [w.heap.size] wc W → W.cell? ⟨H, 0, none⟩ = some (.int .u8 (x 0)) ∧ W.cell? ⟨H, 1, none⟩ = some (.int .u32 (be (x 1) (x 2) (x 3) (x 4))) ∧ W.cell? ⟨H, 2, none⟩ = some (.int .i32 (sg (be (x 5) (x 6) (x 7) (x 8))))) := fun W k => by
      have h := k.lies hH (by simp; omega)
      exact ⟨cell_at h rfl, cell_at h rfl, cell_at h rfl⟩
    have q0 : wc.cell? ⟨H, 0, none⟩ = some (.int .u8 (x 0)) := cell_at hH rfl
    have q1 : wc.cell? ⟨H, 1, none⟩ = some (.int .u32 (be (x 1) (x 2) (x 3) (x 4))) := cell_at hH rfl
    have q2 : wc.cell? ⟨H, 2, none⟩ = some (.int .i32 (sg (be (x 5) (x 6) (x 7) (x 8)))) := cell_at hH rfl
    have HRc : Hid (wc.heap[R]? = some (.cells #[.slice (some ⟨g, 0, none⟩) n n, .int .i64 ((i : Int) + 9), .int .i64 (-1)] 42 (0, 0))) := hk.lies HR1.out (by simp)
    have HKc : Hid (Kept [R] w wc) := HK1.trans (hk.mono (by simp))
    have HFc : Hid (F.answers wc.tape) := by show F.answers wc.tape; rw [HKc.out.tape]; exact HF.out
    have d0' := hk.cell d0 (by simp)
    have d1' := hk.cell d1 (by simp)
    have d2' := hk.cell d2 (by simp)
    have hzc : w.heap.size < wc.heap.size := by have := hk.size; omega
    have e0' : wc.frozen? ⟨w.heap.size, 0, none⟩ = false := (World.frozen?_of_block (w := w1) (hk.block _ hz1 (by simp))).trans e0
    have e1' : wc.frozen? ⟨w.heap.size, 1, none⟩ = false := (World.frozen?_of_block (w := w1) (hk.block _ hz1 (by simp))).trans e1
    have e2' : wc.frozen? ⟨w.heap.size, 2, none⟩ = false := (World.frozen?_of_block (w := w1) (hk.block _ hz1 (by simp))).trans e2
    clear hH hk d0 d1 d2 e0 e1 e2 HR1 HK1 HC hz2 hz3
    go_wp2
    go_region_held3 (fun W => W.cell? ⟨H, 0, none⟩ = some (.int .u8 (x 0)) ∧ W.cell? ⟨H, 1, none⟩ = some (.int .u32 (be (x 1) (x 2) (x 3) (x 4))) ∧ W.cell? ⟨H, 2, none⟩ = some (.int .i32 (sg (be (x 5) (x 6) (x 7) (x 8))))) (exact HH.out _ (by repeat (first | apply Kept.drew | apply Kept.alloc | refine Kept.setCell ?_ (Or.inl (by simp)) _ | exact Kept.refl _ _)))
      (first | (go_at_call 17; refine (errorf_any F (be (x 1) (x 2) (x 3) (x 4)) _ _ (by exact HFc.out) (by go_simp) (by go_simp)).mono ?_; rintro e w' ⟨rfl, o, rfl⟩))
    have hzd : w.heap.size < wc.heap.size + 1 := by omega
    go_wp2
    refine bodyPost_ret (v := .tuple #[.agg #[.int .u8 (x 0), .int .u32 (be (x 1) (x 2) (x 3) (x 4)), .int .i32 (sg (be (x 5) (x 6) (x 7) (x 8)))], .iface 58 (.pointer (some ⟨wc.heap.size + 1, 0, none⟩))]) (by simp [results, Tryf.results13, go_sem, d0', d1', d2', hzc, hzd]) rfl ⟨⟨_, rfl⟩, ?_, ?_⟩
    · exact Kept.lies (S := []) (w := ((wc.setCell ⟨w.heap.size, 0, none⟩ (.int .u8 (x 0))).setCell ⟨w.heap.size, 1, none⟩ (.int .u32 (be (x 1) (x 2) (x 3) (x 4)))).setCell ⟨w.heap.size, 2, none⟩ (.int .i32 (sg (be (x 5) (x 6) (x 7) (x 8)))))
        ((((Kept.refl _ _).alloc _).alloc _).drew).drew (by rw [set3_other _ _ _ _ _ _ (by omega)]; exact HRc.out) (by simp)
    · exact ((((HKc.out.set3 _ _ _ _ (Nat.le_refl _)).alloc _).alloc _).drew).drew

end Go.Proofs.Qxb6614263aFmt
