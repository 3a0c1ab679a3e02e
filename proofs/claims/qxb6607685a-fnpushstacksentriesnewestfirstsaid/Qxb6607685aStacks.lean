/-
  FnPushStacksEntriesNewestFirst: the walks.
-/
import Derived.Test.Qxb6607685aStackParts
import Derived.Deep.RegionHeld3
namespace Go.Proofs.Qxb6607685a
open Go Go.RowKit
set_option maxRecDepth 100000

theorem stacks_bytes (ao bo : Option Addr) (n c m d : Nat) (h : Int) (w : World) (hl : 1048576 < n + m) :
    Calls Try.prog 3 #[.slice ao n c, .int .u32 h, .slice bo m d] w fun e w' => e = .returned (.bool true) ∧ Below w.heap.size w w' := by
  go_enter Try.func3, Try.ntmps3
  go_wp2_with (go_at_call 10; refine (bytes10_long ao bo n c m d h _ hl).mono ?_; rintro e w1 ⟨rfl, rfl⟩)
  go_ret
  exact ⟨rfl, Below.refl _ _⟩
theorem stacks_long1 (ao bo : Option Addr) (n c m d : Nat) (h : Int) (w : World) (hl : n + m ≤ 1048576) (h1 : 65536 < n) :
    Calls Try.prog 3 #[.slice ao n c, .int .u32 h, .slice bo m d] w fun e w' => e = .returned (.bool true) ∧ Below w.heap.size w w' := by
  go_enter Try.func3, Try.ntmps3
  go_wp2_with (go_at_call 10; refine (bytes10_ok ao bo n c m d h _ hl).mono ?_; rintro e w1 ⟨rfl, rfl⟩)
  go_ret
  exact ⟨rfl, Below.refl _ _⟩
theorem stacks_long2 (ao bo : Option Addr) (n c m d : Nat) (h : Int) (w : World) (hl : n + m ≤ 1048576) (h1 : n ≤ 65536) (h2 : 65536 < m) :
    Calls Try.prog 3 #[.slice ao n c, .int .u32 h, .slice bo m d] w fun e w' => e = .returned (.bool true) ∧ Below w.heap.size w w' := by
  go_enter Try.func3, Try.ntmps3
  go_wp2_with (go_at_call 10; refine (bytes10_ok ao bo n c m d h _ hl).mono ?_; rintro e w1 ⟨rfl, rfl⟩)
  go_ret
  exact ⟨rfl, Below.refl _ _⟩

theorem linkAt_int (b g cap n : Nat) (L : List (Int × Int)) (i : Nat) (ix : Int) (hx : ix = i) (w : World) (hi : i < n) (hn : n = L.length) (hrow : w.ownsRow b 29 2 (.slice (some ⟨g, 0, none⟩) n cap) n (flat L)) :
    Calls Try.prog 13 #[.slice (some ⟨g, 0, none⟩) n cap, .int .i64 ix] w fun e w' => e = .returned (.tuple #[.int .u32 (L.getD i (0, 0)).1, .int .u32 (L.getD i (0, 0)).2]) ∧ Kept [] w w' := by
  subst hx
  exact linkAt_any b g cap n L i w hi hn hrow

theorem row_frame {wr : World} {g b n : Nat} {xs : List Value} (h : wr.ownsRow b 29 2 (.slice (some ⟨g, 0, none⟩) n n) n xs) : Fr g (n * 2) wr wr := by
  rcases h.2 with ⟨h', _⟩ | ⟨g', cap', cur, h', _, hg, _, _, hs, _⟩
  · simp at h'
  · simp only [Value.slice.injEq, Option.some.injEq, Addr.mk.injEq, and_true, true_and] at h'
    obtain ⟨rfl, rfl⟩ := h'
    exact ⟨Kept.refl _ _, cur, hg, hs⟩

theorem fill_step {w wr w5 : World} {B n k : Nat} (En Rs : Nat → Nat) (hBw : B ≤ w.heap.size) (hl : wr.heap[B + 1]? = some (.cells #[.slice (some ⟨B, 0, none⟩) n n] 27 (0, 0)))
    (hrow : wr.ownsRow B 29 2 (.slice (some ⟨B, 0, none⟩) n n) n (flat (filled En Rs n k))) (hbel : Below B w wr) (hk5 : Kept [] wr.drew w5) :
    ((w5.setCell ⟨B, k * 2, none⟩ (.int .u32 (En k))).setCell ⟨B, k * 2 + 1, none⟩ (.int .u32 (Rs k))).heap[B + 1]? = some (.cells #[.slice (some ⟨B, 0, none⟩) n n] 27 (0, 0)) ∧
    ((w5.setCell ⟨B, k * 2, none⟩ (.int .u32 (En k))).setCell ⟨B, k * 2 + 1, none⟩ (.int .u32 (Rs k))).ownsRow B 29 2 (.slice (some ⟨B, 0, none⟩) n n) n (flat (filled En Rs n (k + 1))) ∧
    Below B w ((w5.setCell ⟨B, k * 2, none⟩ (.int .u32 (En k))).setCell ⟨B, k * 2 + 1, none⟩ (.int .u32 (Rs k))) := by
  have hk' : Kept [] wr w5 := (Kept.refl [] wr).drew.trans hk5
  have r5 : w5.ownsRow B 29 2 (.slice (some ⟨B, 0, none⟩) n n) n (flat (filled En Rs n k)) := hrow.kept (row := none) ⟨hk'.os, hk'.tape, hk'.output, hk'.size, fun i hi _ => hk'.block i hi (by simp)⟩ (Or.inr (by simp [Value.ownBlock]))
  have r6 := ((r5.stored (k * 2) (.int .u32 (En k))).1.stored (k * 2 + 1) (.int .u32 (Rs k))).1
  have e := flat_set (filled En Rs n k) k ((En k : Int), (Rs k : Int))
  rw [filled_set] at e
  rw [e] at r6
  refine ⟨?_, r6, ((hbel.trans (hk'.toBelow (by simp) (Nat.le_trans hBw hbel.size))).setCell (Nat.le_refl _) _).setCell (Nat.le_refl _) _⟩
  rw [Below.heap_setCell _ _ _ _ (by simp), Below.heap_setCell _ _ _ _ (by simp)]
  exact hk'.lies hl (by simp)

theorem inv_form {w : World} {b B : Nat} {L : List (Int × Int)} (h : Inv w b B L) : ∃ vo cap, w.heap[B]? = some (.cells #[.slice vo L.length cap] 27 (0, 0)) ∧ (0 < L.length → ∃ g, vo = some ⟨g, 0, none⟩) ∧ w.ownsRow b 29 2 (.slice vo L.length cap) L.length (flat L) := by
  obtain ⟨v, h1, _, h3⟩ := h
  rcases Nat.eq_zero_or_pos L.length with h0 | h0
  · have h4 := h3
    rcases h3.2 with ⟨rfl, h⟩ | ⟨g, cap, cur, rfl, _⟩
    · refine ⟨none, 0, ?_, fun h => by omega, ?_⟩
      · rw [h0]; exact h1
      · rw [h0] at h4 ⊢; exact h4
    · exact ⟨_, _, h1, fun h => by omega, h4⟩
  · obtain ⟨g, cap, rfl, _, _⟩ := h3.form h0
    exact ⟨_, _, h1, fun _ => ⟨g, rfl⟩, h3⟩

set_option maxHeartbeats 2000000 in
theorem stacks_main (ao bo : Option Addr) (n c m d b off b2 off2 : Nat) (En Rs Es : Nat → Nat) (head : Nat) (w : World) (h1 : n ≤ 65536) (h2 : m ≤ 65536)
    (hao : 0 < n → ao = some ⟨b, off, none⟩ ∧ b < w.heap.size) (hbo : 0 < m → bo = some ⟨b2, off2, none⟩ ∧ b2 < w.heap.size)
    (hc0 : ∀ j, j < n → w.cell? ⟨b, off + j * 2, none⟩ = some (.int .u32 (En j))) (hc1 : ∀ j, j < n → w.cell? ⟨b, off + j * 2 + 1, none⟩ = some (.int .u32 (Rs j)))
    (hc2 : ∀ j, j < m → w.cell? ⟨b2, off2 + j, none⟩ = some (.int .u32 (Es j))) :
    Calls Try.prog 3 #[.slice ao n c, .int .u32 head, .slice bo m d] w fun e w' => e = .returned (.bool true) ∧ Below w.heap.size w w' := by
  have HC : Hid (∀ W, Below w.heap.size w W → ∀ j, j < n → W.cell? ⟨b, off + j * 2, none⟩ = some (.int .u32 (En j)) ∧ W.cell? ⟨b, off + j * 2 + 1, none⟩ = some (.int .u32 (Rs j))) :=
    fun W k j hj => ⟨(k.cell (p := ⟨b, off + j * 2, none⟩) (hao (by omega)).2).trans (hc0 j hj), (k.cell (p := ⟨b, off + j * 2 + 1, none⟩) (hao (by omega)).2).trans (hc1 j hj)⟩
  have HD : Hid (∀ W, Below w.heap.size w W → ∀ j, j < m → W.cell? ⟨b2, off2 + j, none⟩ = some (.int .u32 (Es j))) :=
    fun W k j hj => (k.cell (p := ⟨b2, off2 + j, none⟩) (hbo (by omega)).2).trans (hc2 j hj)
  have HA : Hid (0 < n → ao = some ⟨b, off, none⟩) := fun h => (hao h).1
  have HE : Hid (0 < m → bo = some ⟨b2, off2, none⟩) := fun h => (hbo h).1
  clear hc0 hc1 hc2 hao hbo
  obtain ⟨Z, hZ, hZs, hmk⟩ := make_any n w h1
  have HZ : Hid (Z.toList = flat (List.replicate n (0, 0)) ∧ Z.size = n * 2) := ⟨hZ, hZs⟩
  clear hZ hZs
  go_enter Try.func3, Try.ntmps3
  go_wp2_with (go_at_call 10; refine (bytes10_ok ao bo n c m d _ _ (by omega)).mono ?_; rintro e w1 ⟨rfl, rfl⟩)
  go_loopw [45] (fun i wr => ∃ k : Nat, k ≤ n ∧ i = .int .i64 k ∧ wr.heap[w.heap.size + 1]? = some (.cells #[.slice (some ⟨w.heap.size, 0, none⟩) n n] 27 (0, 0)) ∧
      wr.ownsRow w.heap.size 29 2 (.slice (some ⟨w.heap.size, 0, none⟩) n n) n (flat (filled En Rs n k)) ∧ Below w.heap.size w wr) (fun i _ => n - (intOf i).toNat)
  case atStart =>
    refine ⟨0, by omega, rfl, ?_, ?_, ((Below.refl _ _).alloc (Nat.le_refl _) _).alloc (by simp) _⟩
    · have := block_new (w.alloc (.cells Z 29)) (.cells #[.slice (some ⟨w.heap.size, 0, none⟩) n n] 27)
      simpa using this
    · rw [filled_zero, ← HZ.out.1]
      exact (World.ownsRow_lit w Z n (Nat.le_refl _) (by unfold maxLen; omega) HZ.out.2).alloc _
  case round =>
    obtain ⟨k, hk, rfl, hl, hrow, hbel⟩ := hrel
    clear hmk HZ
    by_cases hkn : k < n
    · obtain rfl := HA.out (by omega)
      have HS : Hid (∀ W, Fr w.heap.size (n * 2) wr W → W.cell? ⟨w.heap.size + 1, 0, none⟩ = some (.slice (some ⟨w.heap.size, 0, none⟩) n n) ∧ W.cell? ⟨b, off + k * 2, none⟩ = some (.int .u32 (En k)) ∧ W.cell? ⟨b, off + k * 2 + 1, none⟩ = some (.int .u32 (Rs k)) ∧
          W.frozen? ⟨w.heap.size, k * 2, none⟩ = false ∧ W.frozen? ⟨w.heap.size, k * 2 + 1, none⟩ = false ∧
          W.cell? ⟨w.heap.size, k * 2, none⟩ = some (cellOf W ⟨w.heap.size, k * 2, none⟩) ∧ W.cell? ⟨w.heap.size, k * 2 + 1, none⟩ = some (cellOf W ⟨w.heap.size, k * 2 + 1, none⟩)) := fun W f => by
        have hb := HC.out W (hbel.trans (f.1.toBelow (by simp) hbel.size)) k hkn
        exact ⟨cell_at (f.1.lies hl (by simp)) rfl, hb.1, hb.2, f.free _, f.free _, f.there _ (by omega), f.there _ (by omega)⟩
      have hFr : Fr w.heap.size (n * 2) wr wr := row_frame hrow
      have HF : Hid (Fr w.heap.size (n * 2) wr wr) := hFr
      have HL : Hid (wr.heap[w.heap.size + 1]? = some (.cells #[.slice (some ⟨w.heap.size, 0, none⟩) n n] 27 (0, 0))) := hl
      have HR : Hid (wr.ownsRow w.heap.size 29 2 (.slice (some ⟨w.heap.size, 0, none⟩) n n) n (flat (filled En Rs n k))) := hrow
      have HB : Hid (Below w.heap.size w wr) := hbel
      obtain ⟨g0, g1, g2, g3, g4, g5, g6⟩ := HS.out _ HF.out
      clear hFr hl hrow hbel
      go_wp2
      go_region_held3 (fun W => W.cell? ⟨w.heap.size + 1, 0, none⟩ = some (.slice (some ⟨w.heap.size, 0, none⟩) n n) ∧ W.cell? ⟨b, off + k * 2, none⟩ = some (.int .u32 (En k)) ∧ W.cell? ⟨b, off + k * 2 + 1, none⟩ = some (.int .u32 (Rs k)) ∧
          W.frozen? ⟨w.heap.size, k * 2, none⟩ = false ∧ W.frozen? ⟨w.heap.size, k * 2 + 1, none⟩ = false ∧
          W.cell? ⟨w.heap.size, k * 2, none⟩ = some (cellOf W ⟨w.heap.size, k * 2, none⟩) ∧ W.cell? ⟨w.heap.size, k * 2 + 1, none⟩ = some (cellOf W ⟨w.heap.size, k * 2 + 1, none⟩))
        (first | exact HS.out _ HF.out.drew | exact HS.out _ (HF.out.drew.next hk5) | exact HS.out _ (((HF.out.drew.next hk5).set _ _).set _ _))
        (first | (go_at_call 11; refine (linkOf_any (En k) (Rs k) _).mono ?_; rintro e w5 ⟨rfl, hk5⟩))
      have HP : Hid (((w5.setCell ⟨w.heap.size, k * 2, none⟩ (.int .u32 (En k))).setCell ⟨w.heap.size, k * 2 + 1, none⟩ (.int .u32 (Rs k))).heap[w.heap.size + 1]? = some (.cells #[.slice (some ⟨w.heap.size, 0, none⟩) n n] 27 (0, 0)) ∧
          ((w5.setCell ⟨w.heap.size, k * 2, none⟩ (.int .u32 (En k))).setCell ⟨w.heap.size, k * 2 + 1, none⟩ (.int .u32 (Rs k))).ownsRow w.heap.size 29 2 (.slice (some ⟨w.heap.size, 0, none⟩) n n) n (flat (filled En Rs n (k + 1))) ∧
          Below w.heap.size w ((w5.setCell ⟨w.heap.size, k * 2, none⟩ (.int .u32 (En k))).setCell ⟨w.heap.size, k * 2 + 1, none⟩ (.int .u32 (Rs k)))) := fill_step En Rs (Nat.le_refl _) HL.out HR.out HB.out hk5
      clear g0 g1 g2 g3 g4 g5 g6 hk5
      go_wp2
      go_roundw
      case rel => exact ⟨k + 1, by omega, by go_num, HP.out.1, HP.out.2.1, HP.out.2.2⟩
      case measure => simp [intOf]; omega
    · obtain rfl : k = n := by omega
      have HI : Hid (Inv wr w.heap.size (w.heap.size + 1) (stacked En Rs Es head k 0)) := by
        refine ⟨_, hl, by simp [Value.ownBlock], ?_⟩
        rw [stacked_zero, filled_length]
        exact hrow
      have HB : Hid (Below w.heap.size w wr) := hbel
      clear hl hrow hbel hkn
      obtain ⟨w1, rfl⟩ : ∃ w1 : World, w1 = wr := ⟨_, rfl⟩
      go_wp2
      go_loopw [66, 9] (fun i h wr => ∃ q : Nat, q ≤ m ∧ i = .int .i64 q ∧ h = .int .u32 (hdOf head k q) ∧ Inv wr w.heap.size (w.heap.size + 1) (stacked En Rs Es head k q) ∧ Below w.heap.size w wr) (fun i _ _ => m - (intOf i).toNat)
      case atStart => exact ⟨0, by omega, rfl, rfl, HI.out, HB.out⟩
      case round =>
        obtain ⟨q, hq, rfl, rfl, hI2, hB2⟩ := hrel
        have HI2 : Hid (Inv wr w.heap.size (w.heap.size + 1) (stacked En Rs Es head k q)) := hI2
        have HB2 : Hid (Below w.heap.size w wr) := hB2
        clear hI2 hB2 HI HB
        by_cases hqm : q < m
        · obtain rfl := HE.out (by omega)
          have g0 := HD.out wr HB2.out q hqm
          go_wp2_with fail
          refine (zzpush_any w.heap.size (w.heap.size + 1) (stacked En Rs Es head k q) (hdOf head k q) (Es q) _ (by omega) (by rw [stacked_length]; omega) (by exact HI2.out)).mono ?_
          rw [stacked_length, ← stacked_succ]
          rintro e w5 ⟨rfl, hi5, hb5⟩
          have HI5 : Hid (Inv w5 w.heap.size (w.heap.size + 1) (stacked En Rs Es head k (q + 1))) := hi5
          have HB5 : Hid (Below w.heap.size w w5) := HB2.out.trans hb5
          clear hi5 hb5 g0
          go_wp2
          go_roundw
          case rel => exact ⟨q + 1, by omega, by go_num, by simp [hdOf], HI5.out, HB5.out⟩
          case measure => simp [intOf]; omega
        · obtain rfl : q = m := by omega
          clear hqm
          obtain ⟨w2, rfl⟩ : ∃ w2 : World, w2 = wr := ⟨_, rfl⟩
          obtain ⟨vo, cap, hv1, hv2, hv3⟩ := inv_form HI2.out
          rw [stacked_length] at hv1 hv2 hv3
          have HV : Hid (∀ W, Kept [] w2 W → W.cell? ⟨w.heap.size + 1, 0, none⟩ = some (.slice vo (k + q) cap)) := fun W kk => cell_at (kk.lies hv1 (by simp)) rfl
          have HG : Hid (0 < k + q → ∃ g, vo = some ⟨g, 0, none⟩) := hv2
          have HR : Hid (∀ W, Kept [] w2 W → W.ownsRow w.heap.size 29 2 (.slice vo (k + q) cap) (k + q) (flat (stacked En Rs Es head k q))) := fun W kk =>
            hv3.kept (row := none) ⟨kk.os, kk.tape, kk.output, kk.size, fun i hi _ => kk.block i hi (by simp)⟩ (by cases vo <;> simp [Value.ownBlock])
          have HW : Hid (∀ W, Kept [] w2 W → Below w.heap.size w W) := fun W kk => HB2.out.trans (kk.toBelow (by simp) HB2.out.size)
          have cv := HV.out w2 (Kept.refl _ _)
          clear hv1 hv2 hv3 HI2 HB2
          go_wp2
          clear cv
          go_loopw [96] (fun i wr => ∃ p : Nat, p ≤ k ∧ i = .int .i64 p ∧ Kept [] w2 wr) (fun i _ => k - (intOf i).toNat)
          case atStart => exact ⟨0, by omega, rfl, Kept.refl _ _⟩
          case round =>
            obtain ⟨p, hp, rfl, hK⟩ := hrel
            have HK : Hid (Kept [] w2 wr) := hK
            clear hK
            by_cases hpk : p < k
            · obtain rfl := HA.out (by omega)
              obtain ⟨g, rfl⟩ := HG.out (by omega)
              have cv := HV.out wr HK.out
              go_wp2_with fail
              refine (linkAt_any w.heap.size g cap (k + q) (stacked En Rs Es head k q) p wr (by omega) (stacked_length En Rs Es head k q).symm (HR.out wr HK.out)).mono ?_
              rw [stacked_old En Rs Es head k q p hpk]
              rintro e w5 ⟨rfl, hk5⟩
              have HK5 : Hid (Kept [] w2 w5) := HK.out.trans hk5
              clear hk5 cv
              obtain ⟨g0, g1⟩ := HC.out w5 (HW.out w5 HK5.out) p hpk
              go_wp2
              go_roundw
              case rel => exact ⟨p + 1, by omega, by go_num, HK5.out⟩
              case measure => simp [intOf]; omega
            · obtain rfl : p = k := by omega
              clear hpk
              obtain ⟨w3, rfl⟩ : ∃ w3 : World, w3 = wr := ⟨_, rfl⟩
              go_wp2
              go_loopw [15, 16] (fun cur kv wr => ∃ r : Nat, r ≤ q ∧ cur = .int .u32 (hdOf head p r) ∧ kv = .int .i64 ((r : Int) - 1) ∧ Kept [] w2 wr) (fun _ kv _ => (intOf kv + 1).toNat)
              case atStart => exact ⟨q, by omega, rfl, rfl, HK.out⟩
              case round =>
                obtain ⟨r, hr, rfl, rfl, hK⟩ := hrel
                have HK4 : Hid (Kept [] w2 wr) := hK
                clear hK
                cases r with
                | zero =>
                  rw [show hdOf head p 0 = head from rfl]
                  go_wp2
                  go_ret
                  exact ⟨rfl, HW.out _ HK4.out⟩
                | succ r =>
                  obtain rfl := HE.out (by omega)
                  obtain ⟨g, rfl⟩ := HG.out (by omega)
                  have cv := HV.out wr HK4.out
                  rw [show hdOf head p (r + 1) = p + r + 1 from rfl]
                  have hdec : ¬ ((p : Int) + q < (p : Int) + r + 1) := by omega
                  go_wp2_with fail
                  refine (linkAt_int w.heap.size g cap (p + q) (stacked En Rs Es head p q) (p + r) ((p : Int) + r) (by simp) wr (by omega) (stacked_length En Rs Es head p q).symm (HR.out wr HK4.out)).mono ?_
                  rw [stacked_new En Rs Es head p q r (by omega)]
                  rintro e w5 ⟨rfl, hk5⟩
                  have HK5 : Hid (Kept [] w2 w5) := HK4.out.trans hk5
                  clear hk5 cv
                  have g0 := HD.out w5 (HW.out w5 HK5.out) r (by omega)
                  go_wp2
                  go_roundw
                  case rel => exact ⟨r, by omega, rfl, rfl, HK5.out⟩
                  case measure => simp [intOf]

end Go.Proofs.Qxb6607685a
