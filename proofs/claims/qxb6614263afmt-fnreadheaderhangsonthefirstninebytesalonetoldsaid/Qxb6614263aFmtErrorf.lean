/-
  fmt.Errorf at the one format of readHeader, by its contract; (*bytes.Reader).Len; zzDecodeHeader.
-/
import Derived.Test.Qxb6614263aFmtParts
import Derived.Stop.CallBack
import Derived.Stop.IfaceNil
namespace Go.Proofs.Qxb6614263aFmt
open Go Go.RowKit Go.Extern.Stop Go.Stop Go.Extern
set_option linter.unusedVariables false

theorem ptr58 (w : World) : (FmtStop.ptrTo "errors.errorString").run Tryf.prog w = .ok 58 w := by kernel_rfl
theorem elem58 (w : World) : (elemOf 58).run Tryf.prog w = .ok 60 w := by kernel_rfl

theorem errorf_any (F : Interp) (n : Int) (blk : Nat) (w : World) (hF : F.answers w.tape)
    (hc0 : w.cell? ⟨blk, 0, none⟩ = some (.iface 27 (.int .u32 n))) (hc1 : w.cell? ⟨blk, 1, none⟩ = some (.iface 3 (.int .i64 1048576))) :
    Calls Tryf.prog 17 #[.string ⟨#[109, 101, 115, 115, 97, 103, 101, 32, 98, 111, 100, 121, 32, 111, 102, 32, 37, 100, 32, 98, 121, 116, 101, 115, 32, 105, 115, 32, 108, 111, 110, 103, 101, 114, 32, 116, 104, 97, 110, 32, 116, 104, 101, 32, 108, 105, 109, 105, 116, 32, 111, 102, 32, 37, 100]⟩, .slice (some ⟨blk, 0, none⟩) 2 2] w fun e w' =>
      e = .returned (.iface 58 (.pointer (some ⟨w.heap.size, 0, none⟩))) ∧ ∃ o, w' = (w.alloc o).drew := by
  have hF' := answers_open hF
  have f1 := call19
  have f2 := guard_fmt
  have f3 := fmt2
  have f4 := fmt2r
  have f5 := op3
  have f6 := op27
  have f7 := ptr58
  have f8 := elem58
  go_enter Tryf.func17, Tryf.ntmps17
  go_wp2
  go_ret
  exact ⟨rfl, _, rfl⟩

/-- (*bytes.Reader).Len, through ZZreaderLen. -/
theorem len_any (R : Nat) (ao : Option Addr) (n c i : Nat) (p : Int) (w : World) (hn : n ≤ 1048576) (hi : i ≤ n)
    (hR : w.heap[R]? = some (.cells #[.slice ao n c, .int .i64 i, .int .i64 p] 42 (0, 0))) :
    Calls Tryf.prog 9 #[.pointer (some ⟨R, 0, none⟩)] w fun e w' => e = .returned (.int .i64 ((n : Int) - i)) ∧ ∃ q, w' = w.drewN q := by
  have c0 : w.cell? ⟨R, 0, none⟩ = some (.slice ao n c) := cell_at hR rfl
  have c1 : w.cell? ⟨R, 1, none⟩ = some (.int .i64 i) := cell_at hR rfl
  clear hR
  by_cases h : i = n
  · subst h
    go_enter Tryf.func9, Tryf.ntmps9
    go_wp2_with (first | go_in | go_quiet (fail))
    go_ret
    exact ⟨ret_int (by omega), _, rfl⟩
  · have h' : i < n := by omega
    clear h
    go_enter Tryf.func9, Tryf.ntmps9
    go_wp2_with (first | go_in | go_quiet (fail))
    go_ret
    exact ⟨rfl, _, World.drewN_drewN _ _ _⟩

theorem bytes5_yes (ao : Option Addr) (n c : Nat) (w : World) (hn : n ≤ 1048576) :
    Calls Tryf.prog 5 #[.slice ao n c] w fun e w' => e = .returned (.bool true) ∧ w' = w := by
  go_enter Tryf.func5, Tryf.ntmps5
  go_wp2
  go_ret
  exact ⟨rfl, rfl⟩
theorem bytes5_no (ao : Option Addr) (n c : Nat) (w : World) (hn : 1048576 < n) :
    Calls Tryf.prog 5 #[.slice ao n c] w fun e w' => e = .returned (.bool false) ∧ w' = w := by
  go_enter Tryf.func5, Tryf.ntmps5
  go_wp2
  go_ret
  exact ⟨rfl, rfl⟩
theorem bytes11_yes (ao : Option Addr) (n c : Nat) (bo : Option Addr) (m d : Nat) (w : World) (hn : n + m ≤ 1048576) :
    Calls Tryf.prog 11 #[.slice ao n c, .slice bo m d] w fun e w' => e = .returned (.bool true) ∧ w' = w := by
  go_enter Tryf.func11, Tryf.ntmps11
  go_wp2
  go_ret
  exact ⟨rfl, rfl⟩
theorem bytes11_no (ao : Option Addr) (n c : Nat) (bo : Option Addr) (m d : Nat) (w : World) (hn : 1048576 < n + m) :
    Calls Tryf.prog 11 #[.slice ao n c, .slice bo m d] w fun e w' => e = .returned (.bool false) ∧ w' = w := by
  by_cases h1 : n ≤ 1048576
  · by_cases h2 : m ≤ 1048576
    · go_enter Tryf.func11, Tryf.ntmps11
      go_wp2
      go_ret
      exact ⟨rfl, rfl⟩
    · go_enter Tryf.func11, Tryf.ntmps11
      go_wp2
      go_ret
      exact ⟨rfl, rfl⟩
  · go_enter Tryf.func11, Tryf.ntmps11
    go_wp2
    go_ret
    exact ⟨rfl, rfl⟩

set_option maxHeartbeats 400000 in
/-- zzDecodeHeader at nine bytes or more. -/
theorem decode_any (g n c : Nat) (x : Nat → Int) (w : World) (hn : 9 ≤ n) (hx : ∀ j, 0 ≤ x j ∧ x j < 256)
    (hc : ∀ j, j < 9 → w.cell? ⟨g, j, none⟩ = some (.int .u8 (x j))) :
    Calls Tryf.prog 10 #[.slice (some ⟨g, 0, none⟩) n c] w fun e w' => e = .returned (.tuple #[.int .u8 (x 0), .int .u32 (acc x 1 4), .int .i64 (sg (acc x 5 4))]) ∧ w' = w := by
  have c0 : w.cell? ⟨g, 0, none⟩ = some (.int .u8 (x 0)) := hc 0 (by omega)
  go_enter Tryf.func10, Tryf.ntmps10
  go_wp2
  go_loop [5, 6] (fun l i => ∃ k : Nat, k ≤ 4 ∧ i = .int .i64 ((k : Int) + 1) ∧ l = .int .u32 (acc x 1 k)) (fun _ i => 5 - (intOf i).toNat)
  case atStart => exact ⟨0, by omega, rfl, rfl⟩
  case round =>
    obtain ⟨k, hk, rfl, rfl⟩ := hrel
    have hcell : k < 4 → w.cell? ⟨g, k + 1, none⟩ = some (.int .u8 (x (1 + k))) := fun h => by rw [Nat.add_comm 1 k]; exact hc (k + 1) (by omega)
    have hxk := hx (1 + k)
    have hab := acc_bounds x hx 1 k
    have hlt : k < 4 → acc x 1 k < 16777216 := fun h => acc_lt3 x hx 1 k (by omega)
    have HC : Hid (∀ j, j < 9 → w.cell? ⟨g, j, none⟩ = some (.int .u8 (x j))) := hc
    have HX : Hid (∀ j, 0 ≤ x j ∧ x j < 256) := hx
    clear hc hx
    by_cases h4 : k < 4
    · have hlt' := hlt h4
      have hcell' := hcell h4
      clear hlt hcell
      go_wp2
      go_round
      case rel => exact ⟨k + 1, by omega, by go_num, rfl⟩
      case measure => simp [intOf]; omega
    · obtain rfl : k = 4 := by omega
      clear hlt hcell hxk hab h4
      go_wp2
      go_loop [7, 8] (fun u i => ∃ k : Nat, k ≤ 4 ∧ i = .int .i64 ((k : Int) + 5) ∧ u = .int .i64 (acc x 5 k)) (fun _ i => 9 - (intOf i).toNat)
      case atStart => exact ⟨0, by omega, rfl, rfl⟩
      case round =>
        obtain ⟨k, hk, rfl, rfl⟩ := hrel
        have hcell : k < 4 → w.cell? ⟨g, k + 5, none⟩ = some (.int .u8 (x (5 + k))) := fun h => by rw [Nat.add_comm 5 k]; exact HC.out (k + 5) (by omega)
        have hxk := HX.out (5 + k)
        have hab := acc_bounds x HX.out 5 k
        have hlt : k < 4 → acc x 5 k < 16777216 := fun h => acc_lt3 x HX.out 5 k (by omega)
        by_cases h4 : k < 4
        · have hlt' := hlt h4
          have hcell' := hcell h4
          clear hlt hcell
          go_wp2
          go_round
          case rel => exact ⟨k + 1, by omega, by go_num, rfl⟩
          case measure => simp [intOf]; omega
        · obtain rfl : k = 4 := by omega
          clear hlt hcell hxk h4
          have hu : acc x 5 4 < 4294967296 := by rw [acc_four]; exact (be_bounds (HX.out _) (HX.out _) (HX.out _) (HX.out _)).2
          by_cases h5 : 2147483648 ≤ acc x 5 4
          · have hsg : Hid (sg (acc x 5 4) = acc x 5 4 - 4294967296) := by show _ = _; unfold sg; rw [if_neg (by omega)]
            go_wp2
            rw [hsg.out]
            go_ret3
            exact ⟨rfl, rfl⟩
          · have hsg : Hid (sg (acc x 5 4) = acc x 5 4) := by show _ = _; unfold sg; rw [if_pos (by omega)]
            go_wp2
            rw [hsg.out]
            go_ret3
            exact ⟨rfl, rfl⟩

end Go.Proofs.Qxb6614263aFmt
