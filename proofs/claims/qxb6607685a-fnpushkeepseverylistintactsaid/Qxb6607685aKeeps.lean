/-
  FnPushKeepsEveryListIntact: the walks.
-/
import Derived.Test.Qxb6607685aPush
import Derived.Deep.RegionHeld3
namespace Go.Proofs.Qxb6607685a
open Go Go.RowKit

/-- The links behind k pushes. -/
def pushed (En : Nat → Int) (Hd : Nat → Nat) (k : Nat) : List (Int × Int) := (List.range k).map fun j => (En j, (Hd j : Int))
theorem pushed_length (En : Nat → Int) (Hd : Nat → Nat) (k : Nat) : (pushed En Hd k).length = k := by simp [pushed]
theorem pushed_succ (En : Nat → Int) (Hd : Nat → Nat) (k : Nat) : pushed En Hd (k + 1) = pushed En Hd k ++ [(En k, (Hd k : Int))] := by simp [pushed, List.range_succ]
theorem pushed_at (En : Nat → Int) (Hd : Nat → Nat) (n j : Nat) (h : j < n) : (pushed En Hd n).getD j (0, 0) = (En j, (Hd j : Int)) := by
  simp [pushed, List.getD_eq_getElem?_getD, h]

theorem bytes14_long (ao : Option Addr) (n c : Nat) (w : World) (h : 1048576 < n) :
    Calls Try.prog 14 #[.slice ao n c] w fun e w' => e = .returned (.bool false) ∧ w = w' := by
  go_enter Try.func14, Try.ntmps14
  go_wp2
  go_ret
  exact ⟨rfl, rfl⟩
theorem bytes14_ok (ao : Option Addr) (n c : Nat) (w : World) (h : n ≤ 1048576) :
    Calls Try.prog 14 #[.slice ao n c] w fun e w' => e = .returned (.bool true) ∧ w = w' := by
  go_enter Try.func14, Try.ntmps14
  go_wp2
  go_ret
  exact ⟨rfl, rfl⟩

theorem keeps_long (ao : Option Addr) (n c : Nat) (w : World) (h : 4096 < n) :
    Calls Try.prog 4 #[.slice ao n c] w fun e w' => e = .returned (.bool true) ∧ Below w.heap.size w w' := by
  rcases Nat.lt_or_ge 1048576 n with hn | hn
  · go_enter Try.func4, Try.ntmps4
    go_wp2_with (go_at_call 14; refine (bytes14_long ao n c _ hn).mono ?_; rintro e w1 ⟨rfl, rfl⟩)
    go_ret
    exact ⟨rfl, Below.refl _ _⟩
  · go_enter Try.func4, Try.ntmps4
    go_wp2_with (go_at_call 14; refine (bytes14_ok ao n c _ hn).mono ?_; rintro e w1 ⟨rfl, rfl⟩)
    go_ret
    exact ⟨rfl, Below.refl _ _⟩

theorem keeps_none (ao : Option Addr) (c : Nat) (w : World) :
    Calls Try.prog 4 #[.slice ao 0 c] w fun e w' => e = .returned (.bool true) ∧ Below w.heap.size w w' := by
  go_enter Try.func4, Try.ntmps4
  go_wp2_with (go_at_call 14; refine (bytes14_ok _ 0 c _ (by omega)).mono ?_; rintro e w1 ⟨rfl, rfl⟩)
  go_loop [21] (fun i => i = .int .i64 0) (fun _ => 0)
  case atStart => rfl
  case round =>
    subst hrel
    go_wp2
    go_loop [36] (fun i => i = .int .i64 0) (fun _ => 0)
    case atStart => rfl
    case round =>
      subst hrel
      go_wp2
      go_loop [64] (fun i => i = .int .i64 0) (fun _ => 0)
      case atStart => rfl
      case round =>
        subst hrel
        go_wp2
        go_ret
        exact ⟨rfl, (Below.refl _ _).alloc (Nat.le_refl _) _⟩

set_option maxHeartbeats 1000000 in
theorem keeps_pos (b off n c : Nat) (En : Nat → Int) (Hd : Nat → Nat) (w : World) (hn : n ≤ 4096) (h0 : 0 < n) (hb : b < w.heap.size) (hH : ∀ j, j < n → Hd j < 4294967296)
    (hc0 : ∀ j, j < n → w.cell? ⟨b, off + j * 2, none⟩ = some (.int .u32 (Hd j))) (hc1 : ∀ j, j < n → w.cell? ⟨b, off + j * 2 + 1, none⟩ = some (.int .u32 (En j))) :
    Calls Try.prog 4 #[.slice (some ⟨b, off, none⟩) n c] w fun e w' => e = .returned (.bool true) ∧ Below w.heap.size w w' := by
  have HC : Hid (∀ W, Below w.heap.size w W → ∀ j, j < n → W.cell? ⟨b, off + j * 2, none⟩ = some (.int .u32 (Hd j)) ∧ W.cell? ⟨b, off + j * 2 + 1, none⟩ = some (.int .u32 (En j))) :=
    fun W k j hj => ⟨(k.cell (p := ⟨b, off + j * 2, none⟩) hb).trans (hc0 j hj), (k.cell (p := ⟨b, off + j * 2 + 1, none⟩) hb).trans (hc1 j hj)⟩
  have HH : Hid (∀ j, j < n → Hd j < 4294967296) := hH
  clear hc0 hc1 hH
  go_enter Try.func4, Try.ntmps4
  go_wp2_with (go_at_call 14; refine (bytes14_ok _ n c _ (by omega)).mono ?_; rintro e w1 ⟨rfl, rfl⟩)
  go_loop [21] (fun i => ∃ k : Nat, k ≤ n ∧ i = .int .i64 k ∧ ∀ j, j < k → Hd j ≤ j) (fun i => n - (intOf i).toNat)
  case atStart => exact ⟨0, by omega, rfl, fun j hj => by omega⟩
  case round =>
    obtain ⟨k, hk, rfl, hle⟩ := hrel
    have HL : Hid (∀ j, j < k → Hd j ≤ j) := hle
    clear hle
    by_cases hkn : k < n
    · obtain ⟨g0, g1⟩ := HC.out w (Below.refl _ _) k hkn
      have hh := HH.out k hkn
      by_cases hlt : k < Hd k
      · go_wp2
        go_ret
        exact ⟨rfl, Below.refl _ _⟩
      · go_wp2
        go_round
        case rel => exact ⟨k + 1, by omega, by go_num, fun j hj => by
          rcases Nat.lt_or_ge j k with h | h
          · exact HL.out j h
          · obtain rfl : j = k := by omega
            omega⟩
        case measure => simp [intOf]; omega
    · obtain rfl : k = n := by omega
      clear hkn
      go_wp2
      go_loopw [36] (fun i wr => ∃ m : Nat, m ≤ k ∧ i = .int .i64 m ∧ Inv wr w.heap.size w.heap.size (pushed En Hd m) ∧ Below w.heap.size w wr) (fun i _ => k - (intOf i).toNat)
      case atStart => exact ⟨0, by omega, rfl, ⟨.slice none 0 0, block_new _ _, by simp [Value.ownBlock], World.ownsRow_nil _ _ _ _⟩, (Below.refl _ _).alloc (Nat.le_refl _) _⟩
      case round =>
        obtain ⟨m, hm, rfl, hI, hbel⟩ := hrel
        have HI : Hid (Inv wr w.heap.size w.heap.size (pushed En Hd m)) := hI
        have HB : Hid (Below w.heap.size w wr) := hbel
        clear hI hbel
        by_cases hmn : m < k
        · obtain ⟨g0, g1⟩ := HC.out wr HB.out m hmn
          have hh := HH.out m hmn
          have hln := pushed_length En Hd m
          go_wp2
          go_region_held3 (fun W => W.cell? ⟨b, off + m * 2, none⟩ = some (.int .u32 (Hd m)) ∧ W.cell? ⟨b, off + m * 2 + 1, none⟩ = some (.int .u32 (En m)))
            (first | exact HC.out _ HB.out.drew m hmn | exact HC.out _ (HB.out.drew.trans hb5) m hmn)
            (first | (go_at_call 12; refine (zzpush_any w.heap.size w.heap.size (pushed En Hd m) (Hd m) (En m) _ (Nat.le_refl _) (by omega) (by exact HI.out.kept (Kept.refl _ _).drew)).mono ?_; rintro e w5 ⟨rfl, hi5, hb5⟩))
          have HI5 : Hid (Inv w5 w.heap.size w.heap.size (pushed En Hd m ++ [(En m, (Hd m : Int))])) := hi5
          have HB5 : Hid (Below w.heap.size w w5) := HB.out.drew.trans hb5
          clear hi5 hb5 g0 g1 hln
          go_wp2
          go_roundw
          case rel => exact ⟨m + 1, by omega, by go_num, by rw [pushed_succ]; exact HI5.out, HB5.out⟩
          case measure => simp [intOf]; omega
        · obtain rfl : m = k := by omega
          clear hmn
          obtain ⟨w2, rfl⟩ : ∃ w2 : World, w2 = wr := ⟨_, rfl⟩
          obtain ⟨v, hv1, hv2, hv3⟩ := HI.out
          rw [pushed_length] at hv3
          obtain ⟨g, cap, rfl, hg1, hg2⟩ := hv3.form h0
          have HV : Hid (∀ W, Kept [] w2 W → W.cell? ⟨w.heap.size, 0, none⟩ = some (.slice (some ⟨g, 0, none⟩) m cap)) := fun W k => cell_at (k.lies hv1 (by simp)) rfl
          have HR : Hid (∀ W, Kept [] w2 W → W.ownsRow w.heap.size 29 2 (.slice (some ⟨g, 0, none⟩) m cap) m (flat (pushed En Hd m))) := fun W k =>
            hv3.kept (row := none) ⟨k.os, k.tape, k.output, k.size, fun i hi _ => k.block i hi (by simp)⟩ (Or.inr (by simp [Value.ownBlock]))
          have HW : Hid (∀ W, Kept [] w2 W → Below w.heap.size w W) := fun W k => HB.out.trans (k.toBelow (by simp) HB.out.size)
          have cv := HV.out w2 (Kept.refl _ _)
          clear hv1 hv2 hv3 hg1 hg2
          go_wp2
          clear cv
          go_loopw [64] (fun i wr => ∃ q : Nat, q ≤ m ∧ i = .int .i64 q ∧ Kept [] w2 wr) (fun i _ => m - (intOf i).toNat)
          case atStart => exact ⟨0, by omega, rfl, Kept.refl _ _⟩
          case round =>
            obtain ⟨q, hq, rfl, hK⟩ := hrel
            have HK : Hid (Kept [] w2 wr) := hK
            clear hK
            by_cases hqm : q < m
            · go_wp2
              obtain ⟨w3, rfl⟩ : ∃ w3 : World, w3 = wr := ⟨_, rfl⟩
              go_loopw [8, 9] (fun rh mh wr => ∃ p : Nat, p ≤ m ∧ rh = .int .u32 p ∧ mh = .int .u32 p ∧ Kept [] w2 wr) (fun _ mh _ => (intOf mh).toNat)
              case atStart => exact ⟨q + 1, by omega, by go_num, by go_num, HK.out⟩
              case round =>
                obtain ⟨p, hp, rfl, rfl, hK⟩ := hrel
                have HK4 : Hid (Kept [] w2 wr) := hK
                clear hK
                cases p with
                | zero =>
                  go_wp2
                  go_roundw
                  case rel => exact ⟨q + 1, by omega, by go_num, HK4.out⟩
                  case measure => simp [intOf]; omega
                | succ p =>
                  have cv := HV.out wr HK4.out
                  obtain ⟨g0, g1⟩ := HC.out wr (HW.out wr HK4.out) p (by omega)
                  have hh := HH.out p (by omega)
                  have hl := HL.out p (by omega)
                  have hdec : ¬ ((m : Int) < (p : Int) + 1) := by omega
                  go_wp2_with fail
                  refine (linkAt_any w.heap.size g cap m (pushed En Hd m) p wr (by omega) (pushed_length En Hd m).symm (HR.out wr HK4.out)).mono ?_
                  rw [pushed_at En Hd m p (by omega)]
                  rintro e w5 ⟨rfl, hk5⟩
                  have HK5 : Hid (Kept [] w2 w5) := HK4.out.trans hk5
                  clear hk5 g0 g1 cv
                  obtain ⟨g0, g1⟩ := HC.out w5 (HW.out w5 HK5.out) p (by omega)
                  go_wp2
                  go_roundw
                  case rel => exact ⟨Hd p, by omega, rfl, rfl, HK5.out.alloc _⟩
                  case measure => simp [intOf]; omega
            · obtain rfl : q = m := by omega
              go_wp2
              go_ret
              exact ⟨rfl, HW.out _ HK.out⟩

end Go.Proofs.Qxb6607685a
