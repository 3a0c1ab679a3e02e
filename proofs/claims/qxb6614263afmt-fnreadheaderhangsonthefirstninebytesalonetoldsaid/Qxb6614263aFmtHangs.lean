/-
  The walk of FnReadHeaderHangsOnTheFirstNineBytesAlone: it returns true, and nothing that was there turns.
-/
import Derived.Test.Qxb6614263aFmtTwice
namespace Go.Proofs.Qxb6614263aFmt
open Go Go.RowKit Go.Extern.Stop Go.Stop Go.Extern
set_option linter.unusedVariables false

theorem len_is {F : Interp} {a2 a3 : Addr} {R : Nat} {ao : Option Addr} {n : Nat} {xs : List Int} {i : Nat} {w : World} (h : Rdr F a2 a3 R ao n xs i w) (hi : i ≤ n) (hxs : n ≤ 1048576) (r : Int) (hr : (n : Int) - i = r) :
    Calls Tryf.prog 9 #[.pointer (some ⟨R, 0, none⟩)] w fun e w' => e = .returned (.int .i64 r) ∧ ∃ q, w' = w.drewN q := by
  rw [← hr]
  exact len_rdr h hi hxs

theorem copy_own (W : World) (J o dLen dCap : Nat) (a : Addr) (sLen sCap : Nat) (cur cs new : List Value) (hg : W.heap[J]? = some (.cells cur.toArray 5 (0, 0))) (hn : cs.length = Nat.min sLen dLen)
    (hsrc : ∀ j v, cs[j]? = some v → W.cell? (a.add j) = some v) (hfit : o + cs.length ≤ cur.length) (h1 : ∀ v ∈ cs, v.oneCell' = true) (hnew : new = splice cur o cs) :
    (Builtin.copy_ #[22, 22] 3 #[.slice (some ⟨J, o, none⟩) dLen dCap, .slice (some a) sLen sCap]).run Tryf.prog W = .ok (goInt cs.length) (W.setRow J new.toArray) := by
  have h := run_copy_row (P := Tryf.prog) W 22 22 3 5 J o dLen dCap a sLen sCap cur.toArray 5 cs Tryf.underlying22 size5 hg hn hsrc (by simpa using hfit) h1
  rw [h, hnew]
  simp [splice]
theorem ints_one (xs : List Int) : ∀ v ∈ xs.map (Value.int .u8), v.oneCell' = true := by
  intro v hv
  simp only [List.mem_map] at hv
  obtain ⟨z, _, rfl⟩ := hv
  rfl
/-- The bytes of a slice's row, from place o on. -/
theorem row_cells {W : World} {g : Nat} {xs : List Int} (h : W.heap[g]? = some (.cells (xs.map (Value.int .u8)).toArray 5 (0, 0))) (k : Nat) : ∀ j v, ((xs.take k).map (Value.int .u8))[j]? = some v → W.cell? ((⟨g, 0, none⟩ : Addr).add j) = some v := by
  intro j v hj
  rw [add_at, Nat.zero_add]
  refine cell_at h ?_
  simp only [List.getElem?_map, List.getElem?_take] at hj
  simp only [List.getElem?_toArray, List.getElem?_map]
  split at hj
  · exact hj
  · simp at hj

theorem splice_pair (Z A T : List Value) (m : Nat) (hZ : Z.length = 9 + m) (hA : A.length = 9) (hT : T.length = m) : A ++ T = splice (splice Z 0 A) 9 T := by
  unfold splice
  rw [hA, hT]
  have e1 : List.take 0 Z ++ (A ++ Z.drop (0 + 9)) = A ++ Z.drop 9 := by simp
  rw [e1, List.take_append_of_le_length (by omega), List.take_of_length_le (by omega)]
  have e2 : List.drop (9 + m) (A ++ Z.drop 9) = [] := List.drop_eq_nil_of_le (by simp; omega)
  rw [e2]
  simp
theorem splice_two (Z : List Value) (xs ts : List Int) (m : Nat) (hZ : Z.length = 9 + m) (hx : 9 ≤ xs.length) (ht : ts.length = m) :
    (xs.take 9 ++ ts).map (Value.int .u8) = splice (splice Z 0 ((xs.take 9).map (Value.int .u8))) 9 (ts.map (Value.int .u8)) := by
  rw [List.map_append]
  exact splice_pair Z _ _ m hZ (by simp; omega) (by simpa using ht)
theorem bytes_take {xs : List Int} (h : Bytes xs) (k : Nat) : Bytes (xs.take k) := fun j => by
  rcases Nat.lt_or_ge j k with hj | hj
  · have := h j
    simpa [List.getD_eq_getElem?_getD, List.getElem?_take, hj] using this
  · simp [List.getD_eq_getElem?_getD, List.getElem?_take, Nat.not_lt.2 hj]
theorem bytes_append {xs ys : List Int} (h : Bytes xs) (k : Bytes ys) : Bytes (xs ++ ys) := fun j => by
  rcases Nat.lt_or_ge j xs.length with hj | hj
  · have := h j
    simpa [List.getD_eq_getElem?_getD, List.getElem?_append_left hj] using this
  · have := k (j - xs.length)
    simpa [List.getD_eq_getElem?_getD, List.getElem?_append_right hj] using this

theorem hangs_long (ao : Option Addr) (n c : Nat) (bo : Option Addr) (m d : Nat) (w : World) (hn : 1048576 < n + m) :
    Calls Tryf.prog 4 #[.slice ao n c, .slice bo m d] w fun e w' => e = .returned (.bool true) ∧ Kept [] w w' := by
  go_enter Tryf.func4, Tryf.ntmps4
  go_wp2_with (go_at_call 11; refine (bytes11_no _ _ _ _ _ _ _ hn).mono ?_; rintro e w' ⟨rfl, rfl⟩)
  go_ret
  exact ⟨rfl, Kept.refl _ _⟩

set_option maxHeartbeats 400000 in
theorem hangs_short (F : Interp) (ao : Option Addr) (n c : Nat) (tq : Option Addr) (m d : Nat) (xs ts : List Int) (a2 a3 : Addr) (w : World) (hn : n < 9) (hm : n + m ≤ 1048576) (hxn : xs.length = n) (htm : ts.length = m) (hby : Bytes xs) (hF : F.answers w.tape) (h3 : 3 < w.heap.size)
    (hao : (ao = none ∧ n = 0 ∧ c = 0) ∨ ∃ a, ao = some a ∧ ∀ j, j < n → w.cell? (a.add j) = some (.int .u8 (xs.getD j 0)))
    (hto : (tq = none ∧ m = 0 ∧ d = 0) ∨ ∃ a, tq = some a ∧ ∀ j, j < m → w.cell? (a.add j) = some (.int .u8 (ts.getD j 0)))
    (hE : w.cell? ⟨2, 0, none⟩ = some (.iface 58 (.pointer (some a2)))) (hU : w.cell? ⟨3, 0, none⟩ = some (.iface 58 (.pointer (some a3)))) :
    Calls Tryf.prog 4 #[.slice ao n c, .slice tq m d] w fun e w' => e = .returned (.bool true) ∧ Kept [] w w' := by
  have HF : Hid (F.answers w.tape) := hF
  have HE : Hid (w.cell? ⟨2, 0, none⟩ = some (.iface 58 (.pointer (some a2)))) := hE
  have HU : Hid (w.cell? ⟨3, 0, none⟩ = some (.iface 58 (.pointer (some a3)))) := hU
  have HA : Hid ((ao = none ∧ n = 0 ∧ c = 0) ∨ ∃ a, ao = some a ∧ ∀ j, j < n → w.cell? (a.add j) = some (.int .u8 (xs.getD j 0))) := hao
  have HT : Hid (∀ W, Kept [] w W → (tq = none ∧ m = 0 ∧ d = 0) ∨ ∃ a, tq = some a ∧ ∀ j, j < m → W.cell? (a.add j) = some (.int .u8 (ts.getD j 0))) := fun W k => by
    rcases hto with h | ⟨a, h1, h2⟩
    · exact Or.inl h
    · exact Or.inr ⟨a, h1, fun j hj => k.cell (h2 j hj) (by simp)⟩
  have HN : Hid (xs.length = n) := hxn
  have HM : Hid (ts.length = m) := htm
  have HB : Hid (Bytes xs) := hby
  clear hF hE hU hao hto hxn htm hby
  go_enter Tryf.func4, Tryf.ntmps4
  go_wp2_with (go_at_call 11; refine (bytes11_yes _ _ _ _ _ _ _ hm).mono ?_; rintro e w' ⟨rfl, rfl⟩)
  refine (clone_any ao n c xs _ (by omega) HN.out HA.out).mono ?_
  rintro e w1 ⟨bo, rfl, hl1, hb1, hk1⟩
  clear hb1
  go_wp2_with fail
  refine (clone_any tq m d ts _ (by omega) HM.out (HT.out _ hk1)).mono ?_
  rintro e w2 ⟨co, rfl, hl2, hb2, hk2⟩
  clear hb2
  have hk12 := hk1.trans hk2
  go_wp2_with (go_at_call 7; refine (newReader_any _ _ _ _).mono ?_; rintro e w3 ⟨rfl, rfl⟩)
  have hB : 3 < w2.heap.size := by have := hk12.size; omega
  have R1 : Rdr F a2 a3 w2.heap.size bo n xs 0 _ := Rdr.start (n := n) (by rw [hk12.tape]; exact HF.out) hB (hl1.kept hk2 (by simp)) (hk12.cell HE.out (by simp)) (hk12.cell HU.out (by simp))
  have d0 : xs.drop 0 = xs := rfl
  refine (zz_rdr R1 n 0 0 0 true HN.out (by omega) (by omega) HB.out (Or.inl ⟨by rw [d0, HN.out]; exact hn, rfl, rfl, rfl, rfl⟩) (by omega)).mono ?_
  rintro e w4 ⟨er1, rfl, hne1, R4, hk4⟩
  obtain ⟨hne1a, hne1b⟩ := hne1
  clear d0 R1
  go_wp2_with (go_at_call 9; refine (len_is R4 (by omega) (by omega) 0 (by omega)).mono ?_; rintro e w5 ⟨rfl, q, rfl⟩)
  go_ret
  exact ⟨rfl, ((((hk12.mono (S' := [w2.heap.size]) (by simp)).alloc _).trans hk4).drewN _).mono (by have := hk12.size; simp; omega)⟩

set_option maxHeartbeats 1000000 in
theorem hangs_pos (F : Interp) (a : Addr) (n c : Nat) (b : Addr) (m d : Nat) (xs : List Int) (a2 a3 : Addr) (w : World) (hn : 9 ≤ n) (hm : n + m ≤ 1048576) (hxn : xs.length = n) (hby : Bytes xs) (hF : F.answers w.tape) (h3 : 3 < w.heap.size)
    (hao : ∀ j, j < n → w.cell? (a.add j) = some (.int .u8 (xs.getD j 0))) (ts : List Int) (htm : ts.length = m) (hm0 : 0 < m) (hto : ∀ j, j < m → w.cell? (b.add j) = some (.int .u8 (ts.getD j 0))) (htb : Bytes ts)
    (hE : w.cell? ⟨2, 0, none⟩ = some (.iface 58 (.pointer (some a2)))) (hU : w.cell? ⟨3, 0, none⟩ = some (.iface 58 (.pointer (some a3)))) :
    Calls Tryf.prog 4 #[.slice (some a) n c, .slice (some b) m d] w fun e w' => e = .returned (.bool true) ∧ Kept [] w w' := by
  obtain ⟨x, hx⟩ : ∃ x : Nat → Int, Hid (∀ j, x j = xs.getD j 0) := ⟨fun j => xs.getD j 0, fun _ => rfl⟩
  have HX : Hid (∀ j, 0 ≤ x j ∧ x j < 256) := fun j => by rw [hx.out j]; exact hby j
  have HF : Hid (F.answers w.tape) := hF
  have HE : Hid (w.cell? ⟨2, 0, none⟩ = some (.iface 58 (.pointer (some a2)))) := hE
  have HU : Hid (w.cell? ⟨3, 0, none⟩ = some (.iface 58 (.pointer (some a3)))) := hU
  have HA : Hid (∀ W, Kept [] w W → ∀ j, j < n → W.cell? (a.add j) = some (.int .u8 (xs.getD j 0))) := fun W k j hj => k.cell (hao j hj) (by simp)
  have HT : Hid (∀ W, Kept [] w W → ∀ W', Kept [] W W' → ∀ j, j < m → W'.cell? (b.add j) = some (.int .u8 (ts.getD j 0))) := fun W k W' k' j hj => (k.trans k').cell (hto j hj) (by simp)
  have HM : Hid (ts.length = m) := htm
  have HTB : Hid (Bytes ts) := htb
  have HN : Hid (xs.length = n) := hxn
  have HB : Hid (Bytes xs) := hby
  have h1 : IsHdr (xs.drop 0) (x 0) (be (x 1) (x 2) (x 3) (x 4)) (sg (be (x 5) (x 6) (x 7) (x 8))) (decide (1048576 < be (x 1) (x 2) (x 3) (x 4))) :=
    Or.inr ⟨by show 9 ≤ xs.length; omega, hx.out 0, by simp only [hx.out]; rfl, by simp only [hx.out]; rfl, rfl⟩
  clear hF hE hU hao hxn hby hto htm htb
  go_enter Tryf.func4, Tryf.ntmps4
  go_wp2_with (go_at_call 11; refine (bytes11_yes _ _ _ _ _ _ _ hm).mono ?_; rintro e w' ⟨rfl, rfl⟩)
  refine (clone_some a n c xs _ _ _ (by omega) rfl rfl HN HA).mono ?_
  rintro e w1 ⟨rfl, hg1, hk1⟩
  have HG1 : Hid (w1.heap[w'.heap.size]? = some (.cells (xs.map (Value.int .u8)).toArray 5 (0, 0))) := hg1
  clear hg1
  go_wp2_with fail
  refine (clone_some b m d ts _ _ _ (by omega) rfl rfl HM (HT.out _ hk1)).mono ?_
  rintro e w2 ⟨rfl, hg2, hk2⟩
  have HG2 : Hid (w2.heap[w1.heap.size]? = some (.cells (ts.map (Value.int .u8)).toArray 5 (0, 0))) := hg2
  clear hg2
  have hk12 := hk1.trans hk2
  have HG12 : Hid (w2.heap[w'.heap.size]? = some (.cells (xs.map (Value.int .u8)).toArray 5 (0, 0))) := hk2.lies HG1.out (by simp)
  go_wp2_with (go_at_call 7; refine (newReader_any _ _ _ _).mono ?_; rintro e w3 ⟨rfl, rfl⟩)
  have hB : 3 < w2.heap.size := by have := hk12.size; omega
  have R1 : Rdr F a2 a3 w2.heap.size (some ⟨w'.heap.size, 0, none⟩) n xs 0 _ := Rdr.start (n := n) (by rw [hk12.tape]; exact HF.out) hB (Or.inr ⟨_, rfl, HG12.out⟩) (hk12.cell HE.out (by simp)) (hk12.cell HU.out (by simp))
  refine (zz_rdr R1 9 (x 0) (be (x 1) (x 2) (x 3) (x 4)) (sg (be (x 5) (x 6) (x 7) (x 8))) (decide (1048576 < be (x 1) (x 2) (x 3) (x 4))) HN.out (by omega) (by omega) HB.out h1 (by omega)).mono ?_
  rintro e w4 ⟨er1, rfl, hne1, R4, hk4⟩
  obtain ⟨hne1a, hne1b⟩ := hne1
  have HK4 : Hid (Kept [] w' w4) := (((hk12.mono (S' := [w2.heap.size]) (by simp)).alloc _).trans hk4).mono (by have := hk12.size; simp; omega)
  have HG4 : Hid (w4.heap[w'.heap.size]? = some (.cells (xs.map (Value.int .u8)).toArray 5 (0, 0))) := by
    rcases R4.lies with ⟨h, _⟩ | ⟨g, hg, hgb⟩
    · cases h
    · simp at hg; subst hg; exact hgb
  have E4 : Hid (w4.cell? ⟨2, 0, none⟩ = some (.iface 58 (.pointer (some a2)))) := R4.eof
  have U4 : Hid (w4.cell? ⟨3, 0, none⟩ = some (.iface 58 (.pointer (some a3)))) := R4.uex
  have F4 : Hid (F.answers w4.tape) := R4.ans
  clear R1
  obtain ⟨Z, hZ⟩ : ∃ Z : List Value, Hid (Z = List.replicate (9 + m) (.int .u8 0)) := ⟨_, rfl⟩
  have hmk : ∀ W, (Instr.makeSlice 22 (.int .i64 (9 + (m : Int))) (.int .i64 (9 + (m : Int)))).run Tryf.prog W = .ok (.slice (some ⟨W.heap.size, 0, none⟩) (9 + m) (9 + m)) (W.alloc (.cells Z.toArray 5)) := fun W => by
    have h := make_bytes (9 + m) (by omega) W
    rw [← hZ.out, show (((9 + m : Nat) : Int)) = 9 + (m : Int) from by omega] at h
    exact h
  have HZl : Hid (Z.length = 9 + m) := by show _ = _; rw [hZ.out]; simp
  have h9m : ¬ 9 + m = 9 := by omega
  go_wp2_with (go_at_call 9; refine (len_is R4 (by omega) (by omega) ((n : Int) - 9) (by omega)).mono ?_; rintro e w5 ⟨rfl, q, rfl⟩)
  have H9 : Hid (((xs.take 9).map (Value.int .u8)).length = 9) := by show _ = _; simp [HN.out]; omega
  obtain ⟨Y, hY⟩ : ∃ Y : List Value, Hid (Y = splice Z 0 ((xs.take 9).map (Value.int .u8))) := ⟨_, rfl⟩
  have HYl : Hid (Y.length = 9 + m) := by show _ = _; rw [hY.out, length_splice _ _ _ (by rw [H9.out, HZl.out]; omega), HZl.out]
  have hc1 := copy_own ((w4.drewN q).alloc (.cells Z.toArray 5)) w4.heap.size 0 (9 + m) (9 + m) ⟨w'.heap.size, 0, none⟩ 9 n Z ((xs.take 9).map (Value.int .u8)) Y (block_new (w4.drewN q) _) (by rw [H9.out]; simp) (row_cells (((Kept.refl [] w4).drewN q).alloc _ |>.lies HG4.out (by simp)) 9) (by rw [H9.out, HZl.out]; omega) (ints_one _) hY.out
  rw [hc1]
  clear hc1 hmk
  obtain ⟨w6, hw6⟩ : ∃ w6, Hid (w6 = ((w4.drewN q).alloc (.cells Z.toArray 5)).setRow w4.heap.size Y.toArray) := ⟨_, rfl⟩
  have HJ6 : Hid (w6.heap[w4.heap.size]? = some (.cells Y.toArray 5 (0, 0))) := by show _ = _; rw [hw6.out]; exact setRow_heap _ _ _ _ _ _ (block_new (w4.drewN q) _)
  have HK6 : Hid (Kept [] w4 w6) := by show Kept [] w4 w6; rw [hw6.out]; exact Kept.setRow (((Kept.refl _ _).drewN q).alloc _) (Or.inr (Nat.le_refl _)) _
  rw [← hw6.out]
  clear hw6
  go_wp2
  have HG24 : Hid (w4.heap[w1.heap.size]? = some (.cells (ts.map (Value.int .u8)).toArray 5 (0, 0))) := (((Kept.refl [w2.heap.size] w2).alloc _).trans hk4).lies HG2.out (by have := lt_of_block HG2.out; simp; omega)
  have HTm : Hid (ts.take m = ts) := List.take_of_length_le (by rw [HM.out]; omega)
  have hc2 := copy_own w6 w4.heap.size 9 m m ⟨w1.heap.size, 0, none⟩ m m Y (ts.map (Value.int .u8)) ((xs.take 9 ++ ts).map (Value.int .u8)) HJ6.out (by simp [HM.out]) (by have h := row_cells (HK6.out.lies HG24.out (by simp)) m; rw [HTm.out] at h; exact h) (by simp [HM.out, HYl.out]) (ints_one _) (by rw [hY.out]; exact splice_two Z xs ts m HZl.out (by rw [HN.out]; exact hn) HM.out)
  rw [hc2]
  clear hc2
  obtain ⟨w7, hw7⟩ : ∃ w7, Hid (w7 = w6.setRow w4.heap.size ((xs.take 9 ++ ts).map (Value.int .u8)).toArray) := ⟨_, rfl⟩
  have HJ7 : Hid (w7.heap[w4.heap.size]? = some (.cells ((xs.take 9 ++ ts).map (Value.int .u8)).toArray 5 (0, 0))) := by show _ = _; rw [hw7.out]; exact setRow_heap _ _ _ _ _ _ HJ6.out
  have HK7 : Hid (Kept [] w4 w7) := by show Kept [] w4 w7; rw [hw7.out]; exact Kept.setRow HK6.out (Or.inr (Nat.le_refl _)) _
  rw [← hw7.out]
  clear hw7 R4
  obtain ⟨ys, hys⟩ : ∃ ys, Hid (ys = xs.take 9 ++ ts) := ⟨_, rfl⟩
  have HYN : Hid (ys.length = 9 + m) := by show _ = _; rw [hys.out]; simp [HN.out, HM.out]; omega
  have HYx : Hid (∀ j, j < 9 → ys.getD j 0 = x j) := fun j hj => by
    rw [hys.out, hx.out j]
    have h1 : j < (xs.take 9).length := by simp [HN.out]; omega
    simp [List.getD_eq_getElem?_getD, List.getElem?_append_left h1, hj]
  have HYB : Hid (Bytes ys) := fun j => by rw [hys.out]; exact bytes_append (fun i => bytes_take HB.out 9 i) HTB.out j
  have h2 : IsHdr (ys.drop 0) (x 0) (be (x 1) (x 2) (x 3) (x 4)) (sg (be (x 5) (x 6) (x 7) (x 8))) (decide (1048576 < be (x 1) (x 2) (x 3) (x 4))) :=
    Or.inr ⟨by show 9 ≤ ys.length; rw [HYN.out]; omega, (HYx.out 0 (by omega)).symm, by show _ = be (ys.getD 1 0) (ys.getD 2 0) (ys.getD 3 0) (ys.getD 4 0); rw [HYx.out 1 (by omega), HYx.out 2 (by omega), HYx.out 3 (by omega), HYx.out 4 (by omega)], by show _ = sg (be (ys.getD 5 0) (ys.getD 6 0) (ys.getD 7 0) (ys.getD 8 0)); rw [HYx.out 5 (by omega), HYx.out 6 (by omega), HYx.out 7 (by omega), HYx.out 8 (by omega)], rfl⟩
  have hB7 : 3 < w7.heap.size := by have := HK7.out.size; have := HK4.out.size; omega
  go_wp2_with (go_at_call 7; refine (newReader_any _ _ _ _).mono ?_; rintro e w8 ⟨rfl, rfl⟩)
  have R7 : Rdr F a2 a3 w7.heap.size (some ⟨w4.heap.size, 0, none⟩) (9 + m) ys 0 _ := Rdr.start (n := 9 + m) (by rw [HK7.out.tape]; exact F4.out) hB7 (Or.inr ⟨_, rfl, by rw [hys.out]; exact HJ7.out⟩) (HK7.out.cell E4.out (by simp)) (HK7.out.cell U4.out (by simp))
  refine (zz_rdr R7 9 (x 0) (be (x 1) (x 2) (x 3) (x 4)) (sg (be (x 5) (x 6) (x 7) (x 8))) (decide (1048576 < be (x 1) (x 2) (x 3) (x 4))) HYN.out (by omega) (by omega) HYB.out h2 (by omega)).mono ?_
  rintro e w9 ⟨er2, rfl, hne2, R9, hk9⟩
  obtain ⟨hne2a, hne2b⟩ := hne2
  have HK9 : Hid (Kept [w7.heap.size] w4 w9) := ((HK7.out.mono (S' := [w7.heap.size]) (by simp)).alloc _).trans hk9
  have HG9 : Hid (w9.heap[w'.heap.size]? = some (.cells (xs.map (Value.int .u8)).toArray 5 (0, 0))) := HK9.out.lies HG4.out (by have := lt_of_block HG4.out; have := HK7.out.size; simp; omega)
  have HC9 : Hid (∀ j, j < n → w9.cell? ⟨w'.heap.size, j, none⟩ = some (.int .u8 (x j))) := fun j hj => by
    rw [hx.out j]
    refine cell_at HG9.out ?_
    have hjx : j < xs.length := by rw [HN.out]; exact hj
    simp [List.getElem?_eq_getElem hjx]
  clear R7 h2 h1
  go_wp2_with (go_at_call 9; refine (len_is R9 (by omega) (by omega) (m : Int) (by omega)).mono ?_; rintro e w10 ⟨rfl, q2, rfl⟩)
  refine (decode_be w'.heap.size n n x (w9.drewN q2) (by omega) HX.out (fun j hj => HC9.out j (by omega))).mono ?_
  rintro e w11 ⟨rfl, rfl⟩
  clear R9
  go_wp2_with fail
  go_quiet (fail)
  go_wp2
  go_ret
  exact ⟨rfl, (((HK4.out.mono (S' := [w7.heap.size]) (by simp)).trans HK9.out).drewN _).mono (by have := HK4.out.size; have := HK7.out.size; simp; omega)⟩

set_option maxHeartbeats 1000000 in
theorem hangs_zero (F : Interp) (a : Addr) (n c : Nat) (tq : Option Addr) (d : Nat) (xs : List Int) (a2 a3 : Addr) (w : World) (hn : 9 ≤ n) (hm : n ≤ 1048576) (hxn : xs.length = n) (hby : Bytes xs) (hF : F.answers w.tape) (h3 : 3 < w.heap.size)
    (hao : ∀ j, j < n → w.cell? (a.add j) = some (.int .u8 (xs.getD j 0))) (hto : (tq = none ∧ d = 0) ∨ ∃ a, tq = some a)
    (hE : w.cell? ⟨2, 0, none⟩ = some (.iface 58 (.pointer (some a2)))) (hU : w.cell? ⟨3, 0, none⟩ = some (.iface 58 (.pointer (some a3)))) :
    Calls Tryf.prog 4 #[.slice (some a) n c, .slice tq 0 d] w fun e w' => e = .returned (.bool true) ∧ Kept [] w w' := by
  obtain ⟨x, hx⟩ : ∃ x : Nat → Int, Hid (∀ j, x j = xs.getD j 0) := ⟨fun j => xs.getD j 0, fun _ => rfl⟩
  have HX : Hid (∀ j, 0 ≤ x j ∧ x j < 256) := fun j => by rw [hx.out j]; exact hby j
  have HF : Hid (F.answers w.tape) := hF
  have HE : Hid (w.cell? ⟨2, 0, none⟩ = some (.iface 58 (.pointer (some a2)))) := hE
  have HU : Hid (w.cell? ⟨3, 0, none⟩ = some (.iface 58 (.pointer (some a3)))) := hU
  have HA : Hid (∀ W, Kept [] w W → ∀ j, j < n → W.cell? (a.add j) = some (.int .u8 (xs.getD j 0))) := fun W k j hj => k.cell (hao j hj) (by simp)
  have HT : Hid ((tq = none ∧ d = 0) ∨ ∃ a, tq = some a) := hto
  have HN : Hid (xs.length = n) := hxn
  have HB : Hid (Bytes xs) := hby
  have h1 : IsHdr (xs.drop 0) (x 0) (be (x 1) (x 2) (x 3) (x 4)) (sg (be (x 5) (x 6) (x 7) (x 8))) (decide (1048576 < be (x 1) (x 2) (x 3) (x 4))) :=
    Or.inr ⟨by show 9 ≤ xs.length; omega, hx.out 0, by simp only [hx.out]; rfl, by simp only [hx.out]; rfl, rfl⟩
  clear hF hE hU hao hxn hby hto
  go_enter Tryf.func4, Tryf.ntmps4
  go_wp2_with (go_at_call 11; refine (bytes11_yes _ _ _ _ _ _ _ hm).mono ?_; rintro e w' ⟨rfl, rfl⟩)
  refine (clone_some a n c xs _ _ _ (by omega) rfl rfl HN HA).mono ?_
  rintro e w1 ⟨rfl, hg1, hk1⟩
  have HG1 : Hid (w1.heap[w'.heap.size]? = some (.cells (xs.map (Value.int .u8)).toArray 5 (0, 0))) := hg1
  clear hg1
  go_wp2_with fail
  refine (clone_any tq 0 d [] _ (by omega) rfl (HT.out.elim (fun h => Or.inl ⟨h.1, rfl, h.2⟩) (fun ⟨a, h⟩ => Or.inr ⟨a, h, fun j hj => by omega⟩))).mono ?_
  rintro e w2 ⟨co, rfl, hl2, hb2, hk2⟩
  clear hl2 hb2
  have hk12 := hk1.trans hk2
  have HG12 : Hid (w2.heap[w'.heap.size]? = some (.cells (xs.map (Value.int .u8)).toArray 5 (0, 0))) := hk2.lies HG1.out (by simp)
  go_wp2_with (go_at_call 7; refine (newReader_any _ _ _ _).mono ?_; rintro e w3 ⟨rfl, rfl⟩)
  have hB : 3 < w2.heap.size := by have := hk12.size; omega
  have R1 : Rdr F a2 a3 w2.heap.size (some ⟨w'.heap.size, 0, none⟩) n xs 0 _ := Rdr.start (n := n) (by rw [hk12.tape]; exact HF.out) hB (Or.inr ⟨_, rfl, HG12.out⟩) (hk12.cell HE.out (by simp)) (hk12.cell HU.out (by simp))
  refine (zz_rdr R1 9 (x 0) (be (x 1) (x 2) (x 3) (x 4)) (sg (be (x 5) (x 6) (x 7) (x 8))) (decide (1048576 < be (x 1) (x 2) (x 3) (x 4))) HN.out (by omega) (by omega) HB.out h1 (by omega)).mono ?_
  rintro e w4 ⟨er1, rfl, hne1, R4, hk4⟩
  obtain ⟨hne1a, hne1b⟩ := hne1
  have HK4 : Hid (Kept [] w' w4) := (((hk12.mono (S' := [w2.heap.size]) (by simp)).alloc _).trans hk4).mono (by have := hk12.size; simp; omega)
  have HG4 : Hid (w4.heap[w'.heap.size]? = some (.cells (xs.map (Value.int .u8)).toArray 5 (0, 0))) := by
    rcases R4.lies with ⟨h, _⟩ | ⟨g, hg, hgb⟩
    · cases h
    · simp at hg; subst hg; exact hgb
  have E4 : Hid (w4.cell? ⟨2, 0, none⟩ = some (.iface 58 (.pointer (some a2)))) := R4.eof
  have U4 : Hid (w4.cell? ⟨3, 0, none⟩ = some (.iface 58 (.pointer (some a3)))) := R4.uex
  have F4 : Hid (F.answers w4.tape) := R4.ans
  clear R1
  obtain ⟨Z, hZ⟩ : ∃ Z : List Value, Hid (Z = List.replicate 9 (.int .u8 0)) := ⟨_, rfl⟩
  have hmk : ∀ W, (Instr.makeSlice 22 (.int .i64 9) (.int .i64 9)).run Tryf.prog W = .ok (.slice (some ⟨W.heap.size, 0, none⟩) 9 9) (W.alloc (.cells Z.toArray 5)) := fun W => by
    have h := make_bytes 9 (by omega) W
    rw [← hZ.out] at h
    exact h
  have HZl : Hid (Z.length = 9) := by show _ = _; rw [hZ.out]; simp
  go_wp2_with (go_at_call 9; refine (len_is R4 (by omega) (by omega) ((n : Int) - 9) (by omega)).mono ?_; rintro e w5 ⟨rfl, q, rfl⟩)
  have H9 : Hid (((xs.take 9).map (Value.int .u8)).length = 9) := by show _ = _; simp [HN.out]; omega
  obtain ⟨Y, hY⟩ : ∃ Y : List Value, Hid (Y = splice Z 0 ((xs.take 9).map (Value.int .u8))) := ⟨_, rfl⟩
  have HYl : Hid (Y.length = 9) := by show _ = _; rw [hY.out, length_splice _ _ _ (by rw [H9.out, HZl.out]; omega), HZl.out]
  have hc1 := copy_own ((w4.drewN q).alloc (.cells Z.toArray 5)) w4.heap.size 0 9 9 ⟨w'.heap.size, 0, none⟩ 9 n Z ((xs.take 9).map (Value.int .u8)) Y (block_new (w4.drewN q) _) (by rw [H9.out]; simp) (row_cells (((Kept.refl [] w4).drewN q).alloc _ |>.lies HG4.out (by simp)) 9) (by rw [H9.out, HZl.out]; omega) (ints_one _) hY.out
  rw [hc1]
  clear hc1 hmk
  obtain ⟨w6, hw6⟩ : ∃ w6, Hid (w6 = ((w4.drewN q).alloc (.cells Z.toArray 5)).setRow w4.heap.size Y.toArray) := ⟨_, rfl⟩
  have HJ6 : Hid (w6.heap[w4.heap.size]? = some (.cells Y.toArray 5 (0, 0))) := by show _ = _; rw [hw6.out]; exact setRow_heap _ _ _ _ _ _ (block_new (w4.drewN q) _)
  have HK6 : Hid (Kept [] w4 w6) := by show Kept [] w4 w6; rw [hw6.out]; exact Kept.setRow (((Kept.refl _ _).drewN q).alloc _) (Or.inr (Nat.le_refl _)) _
  rw [← hw6.out]
  clear hw6
  go_wp2
  have hc2 := run_copy_none (P := Tryf.prog) w6 22 22 3 5 (some ⟨w4.heap.size, 0, none⟩) co 0 0 0 0 Tryf.underlying22 size5 rfl
  rw [hc2]
  clear hc2
  have HYe : Hid (Y = (xs.take 9).map (Value.int .u8)) := by
    show _ = _
    rw [hY.out]
    unfold splice
    rw [H9.out, List.drop_eq_nil_of_le (by rw [HZl.out]; omega)]
    simp
  have HJ7 : Hid (w6.heap[w4.heap.size]? = some (.cells ((xs.take 9).map (Value.int .u8)).toArray 5 (0, 0))) := by show _ = _; rw [← HYe.out]; exact HJ6.out
  have HK7 : Hid (Kept [] w4 w6) := HK6
  clear R4
  obtain ⟨ys, hys⟩ : ∃ ys, Hid (ys = xs.take 9) := ⟨_, rfl⟩
  have HYN : Hid (ys.length = 9) := by show _ = _; rw [hys.out]; simp [HN.out]; omega
  have HYx : Hid (∀ j, j < 9 → ys.getD j 0 = x j) := fun j hj => by
    rw [hys.out, hx.out j]
    simp [List.getD_eq_getElem?_getD, hj]
  have HYB : Hid (Bytes ys) := fun j => by rw [hys.out]; exact bytes_take HB.out 9 j
  have h2 : IsHdr (ys.drop 0) (x 0) (be (x 1) (x 2) (x 3) (x 4)) (sg (be (x 5) (x 6) (x 7) (x 8))) (decide (1048576 < be (x 1) (x 2) (x 3) (x 4))) :=
    Or.inr ⟨by show 9 ≤ ys.length; rw [HYN.out]; omega, (HYx.out 0 (by omega)).symm, by show _ = be (ys.getD 1 0) (ys.getD 2 0) (ys.getD 3 0) (ys.getD 4 0); rw [HYx.out 1 (by omega), HYx.out 2 (by omega), HYx.out 3 (by omega), HYx.out 4 (by omega)], by show _ = sg (be (ys.getD 5 0) (ys.getD 6 0) (ys.getD 7 0) (ys.getD 8 0)); rw [HYx.out 5 (by omega), HYx.out 6 (by omega), HYx.out 7 (by omega), HYx.out 8 (by omega)], rfl⟩
  have hB7 : 3 < w6.heap.size := by have := HK7.out.size; have := HK4.out.size; omega
  go_wp2_with (go_at_call 7; refine (newReader_any _ _ _ _).mono ?_; rintro e w8 ⟨rfl, rfl⟩)
  have R7 : Rdr F a2 a3 w6.heap.size (some ⟨w4.heap.size, 0, none⟩) 9 ys 0 _ := Rdr.start (n := 9) (by rw [HK7.out.tape]; exact F4.out) hB7 (Or.inr ⟨_, rfl, by rw [hys.out]; exact HJ7.out⟩) (HK7.out.cell E4.out (by simp)) (HK7.out.cell U4.out (by simp))
  refine (zz_rdr R7 9 (x 0) (be (x 1) (x 2) (x 3) (x 4)) (sg (be (x 5) (x 6) (x 7) (x 8))) (decide (1048576 < be (x 1) (x 2) (x 3) (x 4))) HYN.out (by omega) (by omega) HYB.out h2 (by omega)).mono ?_
  rintro e w9 ⟨er2, rfl, hne2, R9, hk9⟩
  obtain ⟨hne2a, hne2b⟩ := hne2
  have HK9 : Hid (Kept [w6.heap.size] w4 w9) := ((HK7.out.mono (S' := [w6.heap.size]) (by simp)).alloc _).trans hk9
  have HG9 : Hid (w9.heap[w'.heap.size]? = some (.cells (xs.map (Value.int .u8)).toArray 5 (0, 0))) := HK9.out.lies HG4.out (by have := lt_of_block HG4.out; have := HK7.out.size; simp; omega)
  have HC9 : Hid (∀ j, j < n → w9.cell? ⟨w'.heap.size, j, none⟩ = some (.int .u8 (x j))) := fun j hj => by
    rw [hx.out j]
    refine cell_at HG9.out ?_
    have hjx : j < xs.length := by rw [HN.out]; exact hj
    simp [List.getElem?_eq_getElem hjx]
  clear R7 h2 h1
  go_wp2_with (go_at_call 9; refine (len_is R9 (by omega) (by omega) 0 (by omega)).mono ?_; rintro e w10 ⟨rfl, q2, rfl⟩)
  refine (decode_be w'.heap.size n n x (w9.drewN q2) (by omega) HX.out (fun j hj => HC9.out j (by omega))).mono ?_
  rintro e w11 ⟨rfl, rfl⟩
  clear R9
  go_wp2_with fail
  go_quiet (fail)
  go_wp2
  go_ret
  exact ⟨rfl, (((HK4.out.mono (S' := [w6.heap.size]) (by simp)).trans HK9.out).drewN _).mono (by have := HK4.out.size; have := HK7.out.size; simp; omega)⟩

end Go.Proofs.Qxb6614263aFmt
