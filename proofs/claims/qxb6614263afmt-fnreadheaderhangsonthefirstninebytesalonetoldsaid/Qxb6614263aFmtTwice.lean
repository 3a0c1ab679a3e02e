/-
  The walk of FnReadHeaderTwiceReadsTwoFramesInTurn: it returns true, and nothing that was there turns.
-/
import Derived.Test.Qxb6614263aFmtZZ
namespace Go.Proofs.Qxb6614263aFmt
open Go Go.RowKit Go.Extern.Stop Go.Stop Go.Extern
set_option linter.unusedVariables false

theorem Lies.kept {w w' : World} {ao : Option Addr} {xs : List Int} {S : List Nat} (h : Lies w ao xs) (k : Kept S w w') (hS : ∀ g, ao = some ⟨g, 0, none⟩ → g ∉ S) : Lies w' ao xs := by
  rcases h with h | ⟨g, rfl, hg⟩
  · exact Or.inl h
  · exact Or.inr ⟨g, rfl, k.lies hg (hS g rfl)⟩
theorem Lies.lt {w : World} {ao : Option Addr} {xs : List Int} (h : Lies w ao xs) : ∀ g, ao = some ⟨g, 0, none⟩ → g < w.heap.size := by
  rcases h with ⟨rfl, _⟩ | ⟨g, rfl, hg⟩
  · intro g h; cases h
  · intro g' h; simp at h; subst h; exact lt_of_block hg

theorem decode_be (g n c : Nat) (x : Nat → Int) (w : World) (hn : 9 ≤ n) (hx : ∀ j, 0 ≤ x j ∧ x j < 256)
    (hc : ∀ j, j < 9 → w.cell? ⟨g, j, none⟩ = some (.int .u8 (x j))) :
    Calls Tryf.prog 10 #[.slice (some ⟨g, 0, none⟩) n c] w fun e w' => e = .returned (.tuple #[.int .u8 (x 0), .int .u32 (be (x 1) (x 2) (x 3) (x 4)), .int .i64 (sg (be (x 5) (x 6) (x 7) (x 8)))]) ∧ w' = w := by
  have h := decode_any g n c x w hn hx hc
  rw [acc_four, acc_four] at h
  exact h

/-- A reader over the bytes xs, i of them read. -/
structure Rdr (F : Interp) (a2 a3 : Addr) (R : Nat) (ao : Option Addr) (n : Nat) (xs : List Int) (i : Nat) (w : World) : Prop where
  ans : F.answers w.tape
  big : 3 < R
  blk : ∃ p, w.heap[R]? = some (.cells #[.slice ao n n, .int .i64 i, .int .i64 p] 42 (0, 0))
  lies : Lies w ao xs
  off : ∀ g, ao = some ⟨g, 0, none⟩ → R ≠ g
  eof : w.cell? ⟨2, 0, none⟩ = some (.iface 58 (.pointer (some a2)))
  uex : w.cell? ⟨3, 0, none⟩ = some (.iface 58 (.pointer (some a3)))

theorem Rdr.start {F : Interp} {a2 a3 : Addr} {ao : Option Addr} {n : Nat} {xs : List Int} {w : World} (h1 : F.answers w.tape) (h2 : 3 < w.heap.size) (h3 : Lies w ao xs)
    (h4 : w.cell? ⟨2, 0, none⟩ = some (.iface 58 (.pointer (some a2)))) (h5 : w.cell? ⟨3, 0, none⟩ = some (.iface 58 (.pointer (some a3)))) :
    Rdr F a2 a3 w.heap.size ao n xs 0 (w.alloc (.cells #[.slice ao n n, .int .i64 0, .int .i64 (-1)] 42)) :=
  have k : Kept [] w (w.alloc (.cells #[.slice ao n n, .int .i64 0, .int .i64 (-1)] 42)) := (Kept.refl _ _).alloc _
  ⟨h1, h2, ⟨-1, block_new _ _⟩, h3.kept k (by simp), fun g hg => by have := h3.lt g hg; omega, k.cell h4 (by simp), k.cell h5 (by simp)⟩

theorem Rdr.kept {F : Interp} {a2 a3 : Addr} {R : Nat} {ao : Option Addr} {n : Nat} {xs : List Int} {i : Nat} {w w' : World} {S : List Nat} (h : Rdr F a2 a3 R ao n xs i w) (k : Kept S w w')
    (hS : ∀ s ∈ S, 3 < s ∧ s ≠ R ∧ ∀ g, ao = some ⟨g, 0, none⟩ → s ≠ g) : Rdr F a2 a3 R ao n xs i w' := by
  obtain ⟨p, hp⟩ := h.blk
  refine ⟨by rw [k.tape]; exact h.ans, h.big, ⟨p, k.lies hp fun hm => (hS _ hm).2.1 rfl⟩, h.lies.kept k fun g hg hm => (hS _ hm).2.2 g hg rfl, h.off, k.cell h.eof fun hm => ?_, k.cell h.uex fun hm => ?_⟩
  · have := (hS _ hm).1; simp at this
  · have := (hS _ hm).1; simp at this

theorem zz_rdr {F : Interp} {a2 a3 : Addr} {R : Nat} {ao : Option Addr} {n : Nat} {xs : List Int} {i : Nat} {w : World} (h : Rdr F a2 a3 R ao n xs i w) (k : Nat) (f l q : Int) (b : Bool)
    (hn : xs.length = n) (hi : i ≤ n) (hxs : n ≤ 1048576) (hby : Bytes xs) (hH : IsHdr (xs.drop i) f l q b) (hk : k = min (i + 9) n) :
    Calls Tryf.prog 8 #[.pointer (some ⟨R, 0, none⟩)] w fun e w' => ∃ er, e = .returned (.tuple #[.int .u8 f, .int .u32 l, .int .i32 q, er]) ∧ NE er b ∧ Rdr F a2 a3 R ao n xs k w' ∧ Kept [R] w w' := by
  obtain ⟨p, hp⟩ := h.blk
  refine (zzHead_any F R i n k ao xs p a2 a3 f l q b w h.ans hn hi hxs hby h.big h.off hH hk hp h.lies h.eof h.uex).mono ?_
  rintro e w' ⟨er, p', rfl, hne, hR', hk'⟩
  refine ⟨er, rfl, hne, ⟨by rw [hk'.tape]; exact h.ans, h.big, ⟨p', hR'⟩, h.lies.kept hk' fun g hg => by simpa using (h.off g hg).symm, h.off, hk'.cell h.eof ?_, hk'.cell h.uex ?_⟩, hk'⟩
  · have := h.big; simp; omega
  · have := h.big; simp; omega

theorem len_rdr {F : Interp} {a2 a3 : Addr} {R : Nat} {ao : Option Addr} {n : Nat} {xs : List Int} {i : Nat} {w : World} (h : Rdr F a2 a3 R ao n xs i w) (hi : i ≤ n) (hxs : n ≤ 1048576) :
    Calls Tryf.prog 9 #[.pointer (some ⟨R, 0, none⟩)] w fun e w' => e = .returned (.int .i64 ((n : Int) - i)) ∧ ∃ q, w' = w.drewN q := by
  obtain ⟨p, hp⟩ := h.blk
  exact len_any R ao n n i p w hxs hi hp

theorem twice_long (ao : Option Addr) (n c : Nat) (w : World) (hn : 1048576 < n) :
    Calls Tryf.prog 3 #[.slice ao n c] w fun e w' => e = .returned (.bool true) ∧ Kept [] w w' := by
  go_enter Tryf.func3, Tryf.ntmps3
  go_wp2_with (go_at_call 5; refine (bytes5_no _ _ _ _ hn).mono ?_; rintro e w' ⟨rfl, rfl⟩)
  go_ret
  exact ⟨rfl, Kept.refl _ _⟩

set_option maxHeartbeats 400000 in
theorem twice_short (F : Interp) (ao : Option Addr) (n c : Nat) (xs : List Int) (a2 a3 : Addr) (w : World) (hn : n < 9) (hxn : xs.length = n) (hby : Bytes xs) (hF : F.answers w.tape) (h3 : 3 < w.heap.size)
    (hao : (ao = none ∧ n = 0 ∧ c = 0) ∨ ∃ a, ao = some a ∧ ∀ j, j < n → w.cell? (a.add j) = some (.int .u8 (xs.getD j 0)))
    (hE : w.cell? ⟨2, 0, none⟩ = some (.iface 58 (.pointer (some a2)))) (hU : w.cell? ⟨3, 0, none⟩ = some (.iface 58 (.pointer (some a3)))) :
    Calls Tryf.prog 3 #[.slice ao n c] w fun e w' => e = .returned (.bool true) ∧ Kept [] w w' := by
  have HF : Hid (F.answers w.tape) := hF
  have HE : Hid (w.cell? ⟨2, 0, none⟩ = some (.iface 58 (.pointer (some a2)))) := hE
  have HU : Hid (w.cell? ⟨3, 0, none⟩ = some (.iface 58 (.pointer (some a3)))) := hU
  have HA : Hid ((ao = none ∧ n = 0 ∧ c = 0) ∨ ∃ a, ao = some a ∧ ∀ j, j < n → w.cell? (a.add j) = some (.int .u8 (xs.getD j 0))) := hao
  have HN : Hid (xs.length = n) := hxn
  have HB : Hid (Bytes xs) := hby
  clear hF hE hU hao hxn hby
  go_enter Tryf.func3, Tryf.ntmps3
  go_wp2_with (first | (go_at_call 5; refine (bytes5_yes _ _ _ _ (by omega)).mono ?_; rintro e w' ⟨rfl, rfl⟩) | (go_at_call 6; refine (clone_any ao n c xs _ (by omega) HN.out HA.out).mono ?_; rintro e w1 ⟨bo, rfl, hl1, hb1, hk1⟩) | (go_at_call 7; refine (newReader_any _ _ _ _).mono ?_; rintro e w' ⟨rfl, rfl⟩))
  have hB : 3 < w1.heap.size := by have := hk1.size; omega
  have R1 : Rdr F a2 a3 w1.heap.size bo n xs 0 _ := Rdr.start (n := n) (by rw [hk1.tape]; exact HF.out) hB hl1 (hk1.cell HE.out (by simp)) (hk1.cell HU.out (by simp))
  have d0 : xs.drop 0 = xs := rfl
  refine (zz_rdr R1 n 0 0 0 true HN.out (by omega) (by omega) HB.out (Or.inl ⟨by rw [d0, HN.out]; exact hn, rfl, rfl, rfl, rfl⟩) (by omega)).mono ?_
  rintro e w3 ⟨er1, rfl, hne1, R3, hk3⟩
  obtain ⟨hne1a, hne1b⟩ := hne1
  clear d0
  go_wp2_with fail
  refine (zz_rdr R3 n 0 0 0 true HN.out (by omega) (by omega) HB.out (Or.inl ⟨by rw [List.length_drop, HN.out]; omega, rfl, rfl, rfl, rfl⟩) (by omega)).mono ?_
  rintro e w4 ⟨er2, rfl, hne2, R4, hk4⟩
  obtain ⟨hne2a, hne2b⟩ := hne2
  go_wp2_with (go_at_call 9; refine (len_rdr R4 (by omega) (by omega)).mono ?_; rintro e w5 ⟨rfl, q, rfl⟩)
  go_ret
  exact ⟨rfl, (((((hk1.mono (S' := [w1.heap.size]) (by simp)).alloc _).trans hk3).trans hk4).drewN _).mono (by have := hk1.size; simp; omega)⟩

theorem sg_bounds {u : Int} (h0 : 0 ≤ u) (h1 : u < 4294967296) : -2147483648 ≤ sg u ∧ sg u ≤ 2147483647 := by unfold sg; split <;> omega

set_option maxHeartbeats 1000000 in
theorem twice_nine (F : Interp) (a : Addr)  (c : Nat) (xs : List Int) (a2 a3 : Addr) (w : World)  (hxn : xs.length = 9) (hby : Bytes xs) (hF : F.answers w.tape) (h3 : 3 < w.heap.size)
    (hao : ∀ j, j < 9 → w.cell? (a.add j) = some (.int .u8 (xs.getD j 0)))
    (hE : w.cell? ⟨2, 0, none⟩ = some (.iface 58 (.pointer (some a2)))) (hU : w.cell? ⟨3, 0, none⟩ = some (.iface 58 (.pointer (some a3)))) :
    Calls Tryf.prog 3 #[.slice (some a) 9 c] w fun e w' => e = .returned (.bool true) ∧ Kept [] w w' := by
  obtain ⟨x, hx⟩ : ∃ x : Nat → Int, Hid (∀ j, x j = xs.getD j 0) := ⟨fun j => xs.getD j 0, fun _ => rfl⟩
  have HX : Hid (∀ j, 0 ≤ x j ∧ x j < 256) := fun j => by rw [hx.out j]; exact hby j
  obtain ⟨f2, l2, q2, b2, hh2⟩ := isHdr_ex (xs.drop 9)
  obtain ⟨ys, hys⟩ : ∃ ys, Hid (ys = xs.drop 9) := ⟨_, rfl⟩
  have HYN : Hid (ys.length = 0) := by show _ = _; rw [hys.out]; simp [hxn]
  have HYB : Hid (Bytes ys) := fun j => by rw [hys.out, getD_drop']; exact hby _
  have HF : Hid (F.answers w.tape) := hF
  have HE : Hid (w.cell? ⟨2, 0, none⟩ = some (.iface 58 (.pointer (some a2)))) := hE
  have HU : Hid (w.cell? ⟨3, 0, none⟩ = some (.iface 58 (.pointer (some a3)))) := hU
  have HA : Hid (∀ W, Kept [] w W → ∀ j, j < 9 → W.cell? (a.add j) = some (.int .u8 (xs.getD j 0))) := fun W k j hj => k.cell (hao j hj) (by simp)
  have HN : Hid (xs.length = 9) := hxn
  have HB : Hid (Bytes xs) := hby
  have sb := sg_bounds (be_bounds (HX.out 5) (HX.out 6) (HX.out 7) (HX.out 8)).1 (be_bounds (HX.out 5) (HX.out 6) (HX.out 7) (HX.out 8)).2
  have h1 : IsHdr (xs.drop 0) (x 0) (be (x 1) (x 2) (x 3) (x 4)) (sg (be (x 5) (x 6) (x 7) (x 8))) (decide (1048576 < be (x 1) (x 2) (x 3) (x 4))) :=
    Or.inr ⟨by show 9 ≤ xs.length; omega, hx.out 0, by simp only [hx.out]; rfl, by simp only [hx.out]; rfl, rfl⟩
  clear hF hE hU hao hxn hby
  go_enter Tryf.func3, Tryf.ntmps3
  go_wp2_with (first | (go_at_call 5; refine (bytes5_yes _ _ _ _ (by omega)).mono ?_; rintro e w' ⟨rfl, rfl⟩) | (go_at_call 6; refine (clone_some a 9 c xs _ _ _ (by omega) rfl rfl HN HA).mono ?_; rintro e w1 ⟨rfl, hg1, hk1⟩; have HG1 : Hid (w1.heap[w'.heap.size]? = some (.cells (xs.map (Value.int .u8)).toArray 5 (0, 0))) := hg1; clear hg1) | (go_at_call 7; refine (newReader_any _ _ _ _).mono ?_; rintro e w' ⟨rfl, rfl⟩))
  have hB : 3 < w1.heap.size := by have := hk1.size; omega
  have R1 : Rdr F a2 a3 w1.heap.size (some ⟨w'.heap.size, 0, none⟩) 9 xs 0 _ := Rdr.start (n := 9) (by rw [hk1.tape]; exact HF.out) hB (Or.inr ⟨_, rfl, HG1.out⟩) (hk1.cell HE.out (by simp)) (hk1.cell HU.out (by simp))
  refine (zz_rdr R1 9 (x 0) (be (x 1) (x 2) (x 3) (x 4)) (sg (be (x 5) (x 6) (x 7) (x 8))) (decide (1048576 < be (x 1) (x 2) (x 3) (x 4))) HN.out (by omega) (by omega) HB.out h1 (by omega)).mono ?_
  rintro e w3 ⟨er1, rfl, hne1, R3, hk3⟩
  obtain ⟨hne1a, hne1b⟩ := hne1
  clear h1
  go_wp2_with fail
  refine (zz_rdr R3 9 f2 l2 q2 b2 HN.out (by omega) (by omega) HB.out hh2 (by omega)).mono ?_
  rintro e w4 ⟨er2, rfl, hne2, R4, hk4⟩
  obtain ⟨hne2a, hne2b⟩ := hne2
  have HK4 : Hid (Kept [] w' w4) := ((((hk1.mono (S' := [w1.heap.size]) (by simp)).alloc _).trans hk3).trans hk4).mono (by have := hk1.size; simp; omega)
  have HG4 : Hid (w4.heap[w'.heap.size]? = some (.cells (xs.map (Value.int .u8)).toArray 5 (0, 0))) := by
    rcases R4.lies with ⟨h, _⟩ | ⟨g, hg, hgb⟩
    · cases h
    · simp at hg; subst hg; exact hgb
  have HC4 : Hid (∀ j, j < 9 → w4.cell? ⟨w'.heap.size, j, none⟩ = some (.int .u8 (x j))) := fun j hj => by
    rw [hx.out j]
    refine cell_at HG4.out ?_
    have hjx : j < xs.length := by rw [HN.out]; exact hj
    simp [List.getElem?_eq_getElem hjx]
  have E4 : Hid (w4.cell? ⟨2, 0, none⟩ = some (.iface 58 (.pointer (some a2)))) := R4.eof
  have U4 : Hid (w4.cell? ⟨3, 0, none⟩ = some (.iface 58 (.pointer (some a3)))) := R4.uex
  have F4 : Hid (F.answers w4.tape) := R4.ans
  go_wp2_with (go_at_call 9; refine (len_rdr R4 (by omega) (by omega)).mono ?_; rintro e w5 ⟨rfl, q, rfl⟩)
  refine (decode_be w'.heap.size 9 9 x (w4.drewN q) (by omega) HX.out (fun j hj => HC4.out j (by omega))).mono ?_
  rintro e w6 ⟨rfl, rfl⟩
  clear R1 R3 R4 hk3 hk4
  go_wp2_with fail
  refine (clone_some ⟨w'.heap.size, 0, none⟩ (0) (0) ys _ _ (w4.drewN q) (by omega) rfl rfl HYN (fun W k j hj => ?_)).mono ?_
  · refine k.cell ?_ (by simp)
    rw [add_at, hys.out, getD_drop']
    have := HC4.out (0 + j) (by omega)
    rw [hx.out] at this
    omega
  rintro e w7 ⟨rfl, hg7, hk7⟩
  have HG7 : Hid (w7.heap[w4.heap.size]? = some (.cells (ys.map (Value.int .u8)).toArray 5 (0, 0))) := hg7
  have HK7 : Hid (Kept [] w' w7) := (HK4.out.drewN q).trans hk7
  have hB7 : 3 < w7.heap.size := by have := HK7.out.size; omega
  clear hg7
  go_wp2_with (go_at_call 7; refine (newReader_any _ _ _ _).mono ?_; rintro e w8 ⟨rfl, rfl⟩)
  have R7 : Rdr F a2 a3 w7.heap.size (some ⟨w4.heap.size, 0, none⟩) (0) ys 0 _ := Rdr.start (n := 0) (by rw [hk7.tape]; exact F4.out) hB7 (Or.inr ⟨_, rfl, HG7.out⟩) (hk7.cell E4.out (by simp)) (hk7.cell U4.out (by simp))
  refine (zz_rdr R7 (0) f2 l2 q2 b2 HYN.out (by omega) (by omega) HYB.out (by rw [hys.out]; exact hh2) (by omega)).mono ?_
  rintro e w9 ⟨er3, rfl, hne3, R9, hk9⟩
  obtain ⟨hne3a, hne3b⟩ := hne3
  clear R7 R9
  go_wp2_with fail
  go_quiet (fail)
  go_wp2
  go_ret
  exact ⟨rfl, ((((HK7.out.mono (S' := [w7.heap.size]) (by simp)).alloc _).trans hk9).drewN _).mono (by have := HK7.out.size; simp; omega)⟩

set_option maxHeartbeats 1000000 in
theorem twice_some (F : Interp) (a : Addr) (n : Nat) (c : Nat) (xs : List Int) (a2 a3 : Addr) (w : World) (hn : 9 < n) (hn2 : n < 18) (hxn : xs.length = n) (hby : Bytes xs) (hF : F.answers w.tape) (h3 : 3 < w.heap.size)
    (hao : ∀ j, j < n → w.cell? (a.add j) = some (.int .u8 (xs.getD j 0)))
    (hE : w.cell? ⟨2, 0, none⟩ = some (.iface 58 (.pointer (some a2)))) (hU : w.cell? ⟨3, 0, none⟩ = some (.iface 58 (.pointer (some a3)))) :
    Calls Tryf.prog 3 #[.slice (some a) n c] w fun e w' => e = .returned (.bool true) ∧ Kept [] w w' := by
  obtain ⟨x, hx⟩ : ∃ x : Nat → Int, Hid (∀ j, x j = xs.getD j 0) := ⟨fun j => xs.getD j 0, fun _ => rfl⟩
  have HX : Hid (∀ j, 0 ≤ x j ∧ x j < 256) := fun j => by rw [hx.out j]; exact hby j
  obtain ⟨f2, l2, q2, b2, hh2⟩ := isHdr_ex (xs.drop 9)
  obtain ⟨ys, hys⟩ : ∃ ys, Hid (ys = xs.drop 9) := ⟨_, rfl⟩
  have HYN : Hid (ys.length = n - 9) := by show _ = _; rw [hys.out]; simp [hxn]
  have HYB : Hid (Bytes ys) := fun j => by rw [hys.out, getD_drop']; exact hby _
  have HF : Hid (F.answers w.tape) := hF
  have HE : Hid (w.cell? ⟨2, 0, none⟩ = some (.iface 58 (.pointer (some a2)))) := hE
  have HU : Hid (w.cell? ⟨3, 0, none⟩ = some (.iface 58 (.pointer (some a3)))) := hU
  have HA : Hid (∀ W, Kept [] w W → ∀ j, j < n → W.cell? (a.add j) = some (.int .u8 (xs.getD j 0))) := fun W k j hj => k.cell (hao j hj) (by simp)
  have HN : Hid (xs.length = n) := hxn
  have HB : Hid (Bytes xs) := hby
  have sb := sg_bounds (be_bounds (HX.out 5) (HX.out 6) (HX.out 7) (HX.out 8)).1 (be_bounds (HX.out 5) (HX.out 6) (HX.out 7) (HX.out 8)).2
  have h1 : IsHdr (xs.drop 0) (x 0) (be (x 1) (x 2) (x 3) (x 4)) (sg (be (x 5) (x 6) (x 7) (x 8))) (decide (1048576 < be (x 1) (x 2) (x 3) (x 4))) :=
    Or.inr ⟨by show 9 ≤ xs.length; omega, hx.out 0, by simp only [hx.out]; rfl, by simp only [hx.out]; rfl, rfl⟩
  clear hF hE hU hao hxn hby
  go_enter Tryf.func3, Tryf.ntmps3
  go_wp2_with (first | (go_at_call 5; refine (bytes5_yes _ _ _ _ (by omega)).mono ?_; rintro e w' ⟨rfl, rfl⟩) | (go_at_call 6; refine (clone_some a n c xs _ _ _ (by omega) rfl rfl HN HA).mono ?_; rintro e w1 ⟨rfl, hg1, hk1⟩; have HG1 : Hid (w1.heap[w'.heap.size]? = some (.cells (xs.map (Value.int .u8)).toArray 5 (0, 0))) := hg1; clear hg1) | (go_at_call 7; refine (newReader_any _ _ _ _).mono ?_; rintro e w' ⟨rfl, rfl⟩))
  have hB : 3 < w1.heap.size := by have := hk1.size; omega
  have R1 : Rdr F a2 a3 w1.heap.size (some ⟨w'.heap.size, 0, none⟩) n xs 0 _ := Rdr.start (n := n) (by rw [hk1.tape]; exact HF.out) hB (Or.inr ⟨_, rfl, HG1.out⟩) (hk1.cell HE.out (by simp)) (hk1.cell HU.out (by simp))
  refine (zz_rdr R1 9 (x 0) (be (x 1) (x 2) (x 3) (x 4)) (sg (be (x 5) (x 6) (x 7) (x 8))) (decide (1048576 < be (x 1) (x 2) (x 3) (x 4))) HN.out (by omega) (by omega) HB.out h1 (by omega)).mono ?_
  rintro e w3 ⟨er1, rfl, hne1, R3, hk3⟩
  obtain ⟨hne1a, hne1b⟩ := hne1
  clear h1
  go_wp2_with fail
  refine (zz_rdr R3 n f2 l2 q2 b2 HN.out (by omega) (by omega) HB.out hh2 (by omega)).mono ?_
  rintro e w4 ⟨er2, rfl, hne2, R4, hk4⟩
  obtain ⟨hne2a, hne2b⟩ := hne2
  have HK4 : Hid (Kept [] w' w4) := ((((hk1.mono (S' := [w1.heap.size]) (by simp)).alloc _).trans hk3).trans hk4).mono (by have := hk1.size; simp; omega)
  have HG4 : Hid (w4.heap[w'.heap.size]? = some (.cells (xs.map (Value.int .u8)).toArray 5 (0, 0))) := by
    rcases R4.lies with ⟨h, _⟩ | ⟨g, hg, hgb⟩
    · cases h
    · simp at hg; subst hg; exact hgb
  have HC4 : Hid (∀ j, j < n → w4.cell? ⟨w'.heap.size, j, none⟩ = some (.int .u8 (x j))) := fun j hj => by
    rw [hx.out j]
    refine cell_at HG4.out ?_
    have hjx : j < xs.length := by rw [HN.out]; exact hj
    simp [List.getElem?_eq_getElem hjx]
  have E4 : Hid (w4.cell? ⟨2, 0, none⟩ = some (.iface 58 (.pointer (some a2)))) := R4.eof
  have U4 : Hid (w4.cell? ⟨3, 0, none⟩ = some (.iface 58 (.pointer (some a3)))) := R4.uex
  have F4 : Hid (F.answers w4.tape) := R4.ans
  go_wp2_with (go_at_call 9; refine (len_rdr R4 (by omega) (by omega)).mono ?_; rintro e w5 ⟨rfl, q, rfl⟩)
  refine (decode_be w'.heap.size n n x (w4.drewN q) (by omega) HX.out (fun j hj => HC4.out j (by omega))).mono ?_
  rintro e w6 ⟨rfl, rfl⟩
  clear R1 R3 R4 hk3 hk4
  go_wp2_with fail
  refine (clone_some ⟨w'.heap.size, 9, none⟩ (n - 9) (n - 9) ys _ _ (w4.drewN q) (by omega) rfl rfl HYN (fun W k j hj => ?_)).mono ?_
  · refine k.cell ?_ (by simp)
    rw [add_at, hys.out, getD_drop']
    have := HC4.out (9 + j) (by omega)
    rw [hx.out] at this
    exact this
  rintro e w7 ⟨rfl, hg7, hk7⟩
  have HG7 : Hid (w7.heap[w4.heap.size]? = some (.cells (ys.map (Value.int .u8)).toArray 5 (0, 0))) := hg7
  have HK7 : Hid (Kept [] w' w7) := (HK4.out.drewN q).trans hk7
  have hB7 : 3 < w7.heap.size := by have := HK7.out.size; omega
  clear hg7
  go_wp2_with (go_at_call 7; refine (newReader_any _ _ _ _).mono ?_; rintro e w8 ⟨rfl, rfl⟩)
  have R7 : Rdr F a2 a3 w7.heap.size (some ⟨w4.heap.size, 0, none⟩) (n - 9) ys 0 _ := Rdr.start (n := n - 9) (by rw [hk7.tape]; exact F4.out) hB7 (Or.inr ⟨_, rfl, HG7.out⟩) (hk7.cell E4.out (by simp)) (hk7.cell U4.out (by simp))
  refine (zz_rdr R7 (n - 9) f2 l2 q2 b2 HYN.out (by omega) (by omega) HYB.out (by rw [hys.out]; exact hh2) (by omega)).mono ?_
  rintro e w9 ⟨er3, rfl, hne3, R9, hk9⟩
  obtain ⟨hne3a, hne3b⟩ := hne3
  clear R7 R9
  go_wp2_with fail
  go_quiet (fail)
  go_wp2
  go_ret
  exact ⟨rfl, ((((HK7.out.mono (S' := [w7.heap.size]) (by simp)).alloc _).trans hk9).drewN _).mono (by have := HK7.out.size; simp; omega)⟩

set_option maxHeartbeats 1000000 in
theorem twice_full (F : Interp) (a : Addr) (n : Nat) (c : Nat) (xs : List Int) (a2 a3 : Addr) (w : World) (hn : 18 ≤ n) (hn2 : n ≤ 1048576) (hxn : xs.length = n) (hby : Bytes xs) (hF : F.answers w.tape) (h3 : 3 < w.heap.size)
    (hao : ∀ j, j < n → w.cell? (a.add j) = some (.int .u8 (xs.getD j 0)))
    (hE : w.cell? ⟨2, 0, none⟩ = some (.iface 58 (.pointer (some a2)))) (hU : w.cell? ⟨3, 0, none⟩ = some (.iface 58 (.pointer (some a3)))) :
    Calls Tryf.prog 3 #[.slice (some a) n c] w fun e w' => e = .returned (.bool true) ∧ Kept [] w w' := by
  obtain ⟨x, hx⟩ : ∃ x : Nat → Int, Hid (∀ j, x j = xs.getD j 0) := ⟨fun j => xs.getD j 0, fun _ => rfl⟩
  have HX : Hid (∀ j, 0 ≤ x j ∧ x j < 256) := fun j => by rw [hx.out j]; exact hby j
  obtain ⟨f2, l2, q2, b2, hh2⟩ := isHdr_ex (xs.drop 9)
  obtain ⟨ys, hys⟩ : ∃ ys, Hid (ys = xs.drop 9) := ⟨_, rfl⟩
  have HYN : Hid (ys.length = n - 9) := by show _ = _; rw [hys.out]; simp [hxn]
  have HYB : Hid (Bytes ys) := fun j => by rw [hys.out, getD_drop']; exact hby _
  have HF : Hid (F.answers w.tape) := hF
  have HE : Hid (w.cell? ⟨2, 0, none⟩ = some (.iface 58 (.pointer (some a2)))) := hE
  have HU : Hid (w.cell? ⟨3, 0, none⟩ = some (.iface 58 (.pointer (some a3)))) := hU
  have HA : Hid (∀ W, Kept [] w W → ∀ j, j < n → W.cell? (a.add j) = some (.int .u8 (xs.getD j 0))) := fun W k j hj => k.cell (hao j hj) (by simp)
  have HN : Hid (xs.length = n) := hxn
  have HB : Hid (Bytes xs) := hby
  have sb := sg_bounds (be_bounds (HX.out 5) (HX.out 6) (HX.out 7) (HX.out 8)).1 (be_bounds (HX.out 5) (HX.out 6) (HX.out 7) (HX.out 8)).2
  have h1 : IsHdr (xs.drop 0) (x 0) (be (x 1) (x 2) (x 3) (x 4)) (sg (be (x 5) (x 6) (x 7) (x 8))) (decide (1048576 < be (x 1) (x 2) (x 3) (x 4))) :=
    Or.inr ⟨by show 9 ≤ xs.length; omega, hx.out 0, by simp only [hx.out]; rfl, by simp only [hx.out]; rfl, rfl⟩
  clear hF hE hU hao hxn hby
  go_enter Tryf.func3, Tryf.ntmps3
  go_wp2_with (first | (go_at_call 5; refine (bytes5_yes _ _ _ _ (by omega)).mono ?_; rintro e w' ⟨rfl, rfl⟩) | (go_at_call 6; refine (clone_some a n c xs _ _ _ (by omega) rfl rfl HN HA).mono ?_; rintro e w1 ⟨rfl, hg1, hk1⟩; have HG1 : Hid (w1.heap[w'.heap.size]? = some (.cells (xs.map (Value.int .u8)).toArray 5 (0, 0))) := hg1; clear hg1) | (go_at_call 7; refine (newReader_any _ _ _ _).mono ?_; rintro e w' ⟨rfl, rfl⟩))
  have hB : 3 < w1.heap.size := by have := hk1.size; omega
  have R1 : Rdr F a2 a3 w1.heap.size (some ⟨w'.heap.size, 0, none⟩) n xs 0 _ := Rdr.start (n := n) (by rw [hk1.tape]; exact HF.out) hB (Or.inr ⟨_, rfl, HG1.out⟩) (hk1.cell HE.out (by simp)) (hk1.cell HU.out (by simp))
  refine (zz_rdr R1 9 (x 0) (be (x 1) (x 2) (x 3) (x 4)) (sg (be (x 5) (x 6) (x 7) (x 8))) (decide (1048576 < be (x 1) (x 2) (x 3) (x 4))) HN.out (by omega) (by omega) HB.out h1 (by omega)).mono ?_
  rintro e w3 ⟨er1, rfl, hne1, R3, hk3⟩
  obtain ⟨hne1a, hne1b⟩ := hne1
  clear h1
  go_wp2_with fail
  refine (zz_rdr R3 18 f2 l2 q2 b2 HN.out (by omega) (by omega) HB.out hh2 (by omega)).mono ?_
  rintro e w4 ⟨er2, rfl, hne2, R4, hk4⟩
  obtain ⟨hne2a, hne2b⟩ := hne2
  have HK4 : Hid (Kept [] w' w4) := ((((hk1.mono (S' := [w1.heap.size]) (by simp)).alloc _).trans hk3).trans hk4).mono (by have := hk1.size; simp; omega)
  have HG4 : Hid (w4.heap[w'.heap.size]? = some (.cells (xs.map (Value.int .u8)).toArray 5 (0, 0))) := by
    rcases R4.lies with ⟨h, _⟩ | ⟨g, hg, hgb⟩
    · cases h
    · simp at hg; subst hg; exact hgb
  have HC4 : Hid (∀ j, j < n → w4.cell? ⟨w'.heap.size, j, none⟩ = some (.int .u8 (x j))) := fun j hj => by
    rw [hx.out j]
    refine cell_at HG4.out ?_
    have hjx : j < xs.length := by rw [HN.out]; exact hj
    simp [List.getElem?_eq_getElem hjx]
  have E4 : Hid (w4.cell? ⟨2, 0, none⟩ = some (.iface 58 (.pointer (some a2)))) := R4.eof
  have U4 : Hid (w4.cell? ⟨3, 0, none⟩ = some (.iface 58 (.pointer (some a3)))) := R4.uex
  have F4 : Hid (F.answers w4.tape) := R4.ans
  go_wp2_with (go_at_call 9; refine (len_rdr R4 (by omega) (by omega)).mono ?_; rintro e w5 ⟨rfl, q, rfl⟩)
  refine (decode_be w'.heap.size n n x (w4.drewN q) (by omega) HX.out (fun j hj => HC4.out j (by omega))).mono ?_
  rintro e w6 ⟨rfl, rfl⟩
  clear R1 R3 R4 hk3 hk4
  go_wp2_with fail
  refine (clone_some ⟨w'.heap.size, 9, none⟩ (n - 9) (n - 9) ys _ _ (w4.drewN q) (by omega) rfl rfl HYN (fun W k j hj => ?_)).mono ?_
  · refine k.cell ?_ (by simp)
    rw [add_at, hys.out, getD_drop']
    have := HC4.out (9 + j) (by omega)
    rw [hx.out] at this
    exact this
  rintro e w7 ⟨rfl, hg7, hk7⟩
  have HG7 : Hid (w7.heap[w4.heap.size]? = some (.cells (ys.map (Value.int .u8)).toArray 5 (0, 0))) := hg7
  have HK7 : Hid (Kept [] w' w7) := (HK4.out.drewN q).trans hk7
  have hB7 : 3 < w7.heap.size := by have := HK7.out.size; omega
  clear hg7
  go_wp2_with (go_at_call 7; refine (newReader_any _ _ _ _).mono ?_; rintro e w8 ⟨rfl, rfl⟩)
  have R7 : Rdr F a2 a3 w7.heap.size (some ⟨w4.heap.size, 0, none⟩) (n - 9) ys 0 _ := Rdr.start (n := n - 9) (by rw [hk7.tape]; exact F4.out) hB7 (Or.inr ⟨_, rfl, HG7.out⟩) (hk7.cell E4.out (by simp)) (hk7.cell U4.out (by simp))
  refine (zz_rdr R7 (9) f2 l2 q2 b2 HYN.out (by omega) (by omega) HYB.out (by rw [hys.out]; exact hh2) (by omega)).mono ?_
  rintro e w9 ⟨er3, rfl, hne3, R9, hk9⟩
  obtain ⟨hne3a, hne3b⟩ := hne3
  clear R7 R9
  go_wp2_with fail
  go_quiet (fail)
  go_wp2
  go_ret
  exact ⟨rfl, ((((HK7.out.mono (S' := [w7.heap.size]) (by simp)).alloc _).trans hk9).drewN _).mono (by have := HK7.out.size; simp; omega)⟩

end Go.Proofs.Qxb6614263aFmt
