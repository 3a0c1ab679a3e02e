/-
  readHeader's four ways in one contract; ZZreadHeader; zzCloneBytes.
-/
import Derived.Test.Qxb6614263aFmtBig
namespace Go.Proofs.Qxb6614263aFmt
open Go Go.RowKit Go.Extern.Stop Go.Stop Go.Extern
set_option linter.unusedVariables false

/-- What comes of the header when the bytes ys lie ahead of the reader. -/
def IsHdr (ys : List Int) (f l q : Int) (b : Bool) : Prop :=
  (ys.length < 9 ∧ f = 0 ∧ l = 0 ∧ q = 0 ∧ b = true) ∨
  (9 ≤ ys.length ∧ f = ys.getD 0 0 ∧ l = be (ys.getD 1 0) (ys.getD 2 0) (ys.getD 3 0) (ys.getD 4 0) ∧ q = sg (be (ys.getD 5 0) (ys.getD 6 0) (ys.getD 7 0) (ys.getD 8 0)) ∧ b = decide (1048576 < l))

theorem isHdr_ex (ys : List Int) : ∃ f l q b, IsHdr ys f l q b := by
  rcases Nat.lt_or_ge ys.length 9 with h | h
  · exact ⟨0, 0, 0, true, Or.inl ⟨h, rfl, rfl, rfl, rfl⟩⟩
  · exact ⟨_, _, _, _, Or.inr ⟨h, rfl, rfl, rfl, rfl⟩⟩

/-- An error value that is nil just where b says no. -/
def NE (er : Value) (b : Bool) : Prop := (∀ w, (binOp .neq 29 er .nilIface).run Tryf.prog w = .ok (.bool b) w) ∧ ∀ x v w, (eqGuard .neq 29 x (.const v) er .nilIface).run Tryf.prog w = .ok () w
theorem ne_held (a : Addr) : NE (.iface 58 (.pointer (some a))) true := ⟨fun w => run_neq_held_nil w 29 58 _ (by kernel_rfl), fun x v w => by simp [eqGuard]⟩
theorem ne_nil : NE .nilIface false := ⟨fun w => run_neq_nil_nil w 29 (by kernel_rfl), fun x v w => by simp [eqGuard]⟩

theorem getD_drop' (xs : List Int) (i j : Nat) : (xs.drop i).getD j 0 = xs.getD (i + j) 0 := by simp [List.getD_eq_getElem?_getD, List.getElem?_drop]

theorem head_any (F : Interp) (R i n k : Nat) (ao : Option Addr) (xs : List Int) (p : Int) (a2 a3 : Addr) (f l q : Int) (b : Bool) (w : World) (hF : F.answers w.tape)
    (hn : xs.length = n) (hi : i ≤ n) (hxs : n ≤ 1048576) (hby : Bytes xs) (h3R : 3 < R) (hRg : ∀ g, ao = some ⟨g, 0, none⟩ → R ≠ g) (hH : IsHdr (xs.drop i) f l q b) (hk : k = min (i + 9) n)
    (hR : w.heap[R]? = some (.cells #[.slice ao n n, .int .i64 i, .int .i64 p] 42 (0, 0))) (hl : Lies w ao xs)
    (hE : w.cell? ⟨2, 0, none⟩ = some (.iface 58 (.pointer (some a2)))) (hU : w.cell? ⟨3, 0, none⟩ = some (.iface 58 (.pointer (some a3)))) :
    Calls Tryf.prog 13 #[.iface 25 (.pointer (some ⟨R, 0, none⟩))] w fun e w' => ∃ er p', e = .returned (.tuple #[.agg #[.int .u8 f, .int .u32 l, .int .i32 q], er]) ∧ NE er b ∧
      w'.heap[R]? = some (.cells #[.slice ao n n, .int .i64 k, .int .i64 p'] 42 (0, 0)) ∧ Kept [R] w w' := by
  subst hk
  have hdl : (xs.drop i).length = n - i := by simp [hn]
  rcases hH with ⟨h9, rfl, rfl, rfl, rfl⟩ | ⟨h9, hf, hl', hq, rfl⟩
  · rcases Nat.lt_or_ge i n with hlt | hge
    · rcases hl with ⟨_, rfl⟩ | ⟨g, rfl, hg⟩
      · simp at hn; omega
      · refine (head_some R g i n xs p a2 a3 w hn hlt (by omega) hxs h3R (hRg g rfl) hR hg hE hU).mono ?_
        rintro e w' ⟨rfl, hR', hk'⟩
        exact ⟨_, _, rfl, ne_held _, by rw [show min (i + 9) n = n from by omega]; exact hR', hk'⟩
    · obtain rfl : i = n := by omega
      refine (head_none R ao i p a2 w hxs h3R hR hE).mono ?_
      rintro e w' ⟨rfl, hk'⟩
      exact ⟨_, p, rfl, ne_held _, by rw [show min (i + 9) i = i from by omega]; exact hk'.lies hR (by simp), hk'.mono (by simp)⟩
  · rcases hl with ⟨_, rfl⟩ | ⟨g, rfl, hg⟩
    · simp at h9
    · simp only [getD_drop'] at hf hl' hq
      by_cases hb : 1048576 < l
      · subst hf hl' hq
        refine (head_big F R g i n xs p w hF hn (by omega) hxs h3R (hRg g rfl) (fun j => xs.getD (i + j) 0) (fun j => hby _) (fun _ => rfl) hR hg hb).mono ?_
        rintro e w' ⟨⟨a, rfl⟩, hR', hk'⟩
        refine ⟨_, -1, rfl, ?_, ?_, hk'⟩
        · rw [decide_eq_true hb]; exact ne_held _
        · rw [show min (i + 9) n = i + 9 from by omega]; exact hR'
      · subst hf hl' hq
        refine (head_good R g i n xs p w hn (by omega) hxs h3R (hRg g rfl) (fun j => xs.getD (i + j) 0) (fun j => hby _) (fun _ => rfl) hR hg (by omega)).mono ?_
        rintro e w' ⟨rfl, hR', hk'⟩
        refine ⟨_, -1, rfl, ?_, ?_, hk'⟩
        · rw [decide_eq_false hb]; exact ne_nil
        · rw [show min (i + 9) n = i + 9 from by omega]; exact hR'

set_option maxHeartbeats 400000 in
theorem zzHead_any (F : Interp) (R i n k : Nat) (ao : Option Addr) (xs : List Int) (p : Int) (a2 a3 : Addr) (f l q : Int) (b : Bool) (w : World) (hF : Hid (F.answers w.tape))
    (hn : Hid (xs.length = n)) (hi : i ≤ n) (hxs : n ≤ 1048576) (hby : Bytes xs) (h3R : 3 < R) (hRg : Hid (∀ g, ao = some ⟨g, 0, none⟩ → R ≠ g)) (hH : IsHdr (xs.drop i) f l q b) (hk : Hid (k = min (i + 9) n))
    (hR : Hid (w.heap[R]? = some (.cells #[.slice ao n n, .int .i64 i, .int .i64 p] 42 (0, 0)))) (hl : Lies w ao xs)
    (hE : Hid (w.cell? ⟨2, 0, none⟩ = some (.iface 58 (.pointer (some a2))))) (hU : Hid (w.cell? ⟨3, 0, none⟩ = some (.iface 58 (.pointer (some a3))))) :
    Calls Tryf.prog 8 #[.pointer (some ⟨R, 0, none⟩)] w fun e w' => ∃ er p', e = .returned (.tuple #[.int .u8 f, .int .u32 l, .int .i32 q, er]) ∧ NE er b ∧
      w'.heap[R]? = some (.cells #[.slice ao n n, .int .i64 k, .int .i64 p'] 42 (0, 0)) ∧ Kept [R] w w' := by
  go_enter Tryf.func8, Tryf.ntmps8
  go_wp2_with (go_at_call 13; refine (head_any F R i n k ao xs p a2 a3 f l q b _ (by exact hF) hn.out hi hxs hby h3R hRg.out hH hk.out (by exact hR) (by exact hl) (by exact hE) (by exact hU)).mono ?_; rintro e w1 ⟨er, p', rfl, hne, hR1, hk1⟩; have HR1 : Hid (w1.heap[R]? = some (.cells #[.slice ao n n, .int .i64 k, .int .i64 p'] 42 (0, 0))) := hR1; clear hR1)
  go_quiet (fail)
  go_wp2
  refine bodyPost_ret (v := .tuple #[.int .u8 f, .int .u32 l, .int .i32 q, er]) (by simp [results, Tryf.results8, go_sem]) rfl ⟨er, p', rfl, hne, ?_, ?_⟩
  · exact (((Kept.refl [] _).alloc _).drewN _).lies HR1.out (by simp)
  · exact (hk1.alloc _).drewN _

theorem Kept.setRow {S : List Nat} {a w : World} (h : Kept S a w) {g : Nat} (hg : g ∈ S ∨ a.heap.size ≤ g) (cs : Array Value) : Kept S a (w.setRow g cs) :=
  ⟨h.os, h.tape, h.output, by have := h.size; simpa [World.setRow] using this, fun k hk hn => by
    have hne : k ≠ g := by
      intro e
      subst e
      rcases hg with h1 | h1
      · exact hn h1
      · omega
    rw [setRow_other w g k cs hne]
    exact h.block k hk hn⟩

theorem made_zeros (n : Nat) (z : Value) : madeCells #[z] n = (List.replicate n z).toArray := by
  unfold madeCells
  apply Array.ext
  · simp
  · intro i h1 h2
    simp [Nat.mod_one]

theorem info5 : (Tryf.prog.info? 5).map (fun i => (i.zero, i.size, i.bytes)) = some (some (.int .u8 0), 1, 1) := by kernel_rfl

theorem make_bytes (n : Nat) (hn : n ≤ 1048585) (w : World) : (Instr.makeSlice 22 (.int .i64 n) (.int .i64 n)).run Tryf.prog w = .ok (.slice (some ⟨w.heap.size, 0, none⟩) n n) (w.alloc (.cells (List.replicate n (.int .u8 0)).toArray 5)) := by
  obtain ⟨i0, hi, hz0, hz1, hz2⟩ := info_parts info5
  have h := run_make (P := Tryf.prog) w 22 5 i0 (.int .u8 0) Tryf.underlying22 hi hz0 .i64 .i64 n n (by omega) (by omega) (by rw [hz2]; omega) (by omega)
  rw [h, hz1]
  simp only [Int.toNat_natCast, Nat.mul_one]
  rw [show (Value.int IntKind.u8 0).cells = #[.int .u8 0] from rfl, made_zeros]

set_option maxHeartbeats 400000 in
theorem clone_some (a : Addr) (n c : Nat) (xs : List Int) (X Z : List Value) (w : World) (hn : n ≤ 1048576) (hX : Hid (X = xs.map (Value.int .u8))) (hZ : Hid (Z = List.replicate n (.int .u8 0))) (hxn : Hid (xs.length = n))
    (hc : Hid (∀ W, Kept [] w W → ∀ j, j < n → W.cell? (a.add j) = some (.int .u8 (xs.getD j 0)))) :
    Calls Tryf.prog 6 #[.slice (some a) n c] w fun e w' => e = .returned (.slice (some ⟨w.heap.size, 0, none⟩) n n) ∧ w'.heap[w.heap.size]? = some (.cells X.toArray 5 (0, 0)) ∧ Kept [] w w' := by
  have hmk := make_bytes n (by omega)
  rw [← hZ.out] at hmk
  have hnil := fun W => Lib.run_eql_slice_nil (P := Tryf.prog) W 22 5 (some a) n c 0 0 Tryf.underlying22
  have hZl : Z.length = n := by rw [hZ.out]; simp
  have hXl : X.length = Nat.min n n := by rw [hX.out]; simp [hxn.out]
  have hfit : 0 + X.length ≤ Z.length := by rw [hXl, hZl]; simp
  have hX1 : ∀ v ∈ X, v.oneCell' = true := by
    rw [hX.out]; intro v hv; simp only [List.mem_map] at hv; obtain ⟨z, _, rfl⟩ := hv; rfl
  have hsp : Hid (splice Z 0 X = X) := by
    show _ = _
    unfold splice
    rw [List.drop_eq_nil_of_le (by rw [hZl, hXl]; simp)]
    simp
  have hsrc : Hid (∀ W, Kept [] w W → ∀ j v, X[j]? = some v → W.cell? (a.add j) = some v) := by
    intro W k j v hj
    rw [hX.out] at hj
    have hjn : j < n := by
      rcases Nat.lt_or_ge j n with h | h
      · exact h
      · rw [List.getElem?_eq_none (by simp [hxn.out]; omega)] at hj; cases hj
    rw [hc.out W k j hjn]
    have hjx : j < xs.length := by rw [hxn.out]; exact hjn
    simp [List.getElem?_eq_getElem hjx] at hj
    simp [List.getElem?_eq_getElem hjx, hj]
  have HXl : Hid (X.length = Nat.min n n) := hXl
  have HX1 : Hid (∀ v ∈ X, v.oneCell' = true) := hX1
  have hcp := run_copy_row (P := Tryf.prog) (w.alloc (.cells Z.toArray 5)) 22 22 3 5 w.heap.size 0 n n a n c Z.toArray 5 X Tryf.underlying22 size5 (block_new _ _) hXl (hsrc.out _ ((Kept.refl _ _).alloc _)) (by simpa using hfit) hX1
  have hrow : Hid ((Z.toArray.toList.take 0 ++ X ++ Z.toArray.toList.drop (0 + X.length)).toArray = X.toArray) := by
    show _ = _
    have := hsp.out
    unfold splice at this
    simpa using this
  rw [hrow.out] at hcp
  clear hXl hX1 hZl hfit
  go_enter Tryf.func6, Tryf.ntmps6
  go_wp2
  go_ret
  refine ⟨rfl, ?_, ?_⟩
  · exact setRow_heap _ _ _ _ _ _ (block_new _ _)
  · exact Kept.setRow ((Kept.refl _ _).alloc _) (Or.inr (Nat.le_refl _)) _

theorem clone_nil (w : World) : Calls Tryf.prog 6 #[.slice none 0 0] w fun e w' => e = .returned (.slice none 0 0) ∧ w' = w := by
  have hnil := fun W => Lib.run_eql_slice_nil (P := Tryf.prog) W 22 5 none 0 0 0 0 Tryf.underlying22
  go_enter Tryf.func6, Tryf.ntmps6
  go_wp2
  go_ret
  exact ⟨rfl, rfl⟩

/-- zzCloneBytes: a nil slice, or one whose bytes lie at its address. -/
theorem clone_any (ao : Option Addr) (n c : Nat) (xs : List Int) (w : World) (hn : n ≤ 1048576) (hxn : xs.length = n)
    (hao : (ao = none ∧ n = 0 ∧ c = 0) ∨ ∃ a, ao = some a ∧ ∀ j, j < n → w.cell? (a.add j) = some (.int .u8 (xs.getD j 0))) :
    Calls Tryf.prog 6 #[.slice ao n c] w fun e w' => ∃ bo, e = .returned (.slice bo n n) ∧ Lies w' bo xs ∧ (bo = none ∨ bo = some ⟨w.heap.size, 0, none⟩) ∧ Kept [] w w' := by
  rcases hao with ⟨rfl, rfl, rfl⟩ | ⟨a, rfl, hc⟩
  · refine (clone_nil w).mono ?_
    rintro e w' ⟨rfl, rfl⟩
    exact ⟨none, rfl, Or.inl ⟨rfl, List.eq_nil_of_length_eq_zero hxn⟩, Or.inl rfl, Kept.refl _ _⟩
  · refine (clone_some a n c xs _ _ w hn rfl rfl hxn (fun W k j hj => k.cell (hc j hj) (by simp))).mono ?_
    rintro e w' ⟨rfl, hb, hk⟩
    exact ⟨_, rfl, Or.inr ⟨_, rfl, hb⟩, Or.inr rfl, hk⟩

end Go.Proofs.Qxb6614263aFmt
