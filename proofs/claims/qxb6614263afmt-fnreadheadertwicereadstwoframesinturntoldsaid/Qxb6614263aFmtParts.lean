/-
  The small callees, each by its contract.
-/
import Derived.Test.Qxb6614263aFmtRows
import Derived.Test.Qxb6614263aFmtKept
import Derived.WalkKit
import Derived.WalkSpells
import Derived.WalkLawsBesides
import Derived.BigQuiet
import Derived.Deep.QuietTactic
import Derived.Deep.RegionWith
import Derived.Deep.RegionLaw
import Derived.Deep.CutRange
import Derived.Laws.CopyOwn
import Derived.LaidEql
namespace Go.Proofs.Qxb6614263aFmt
open Go Go.RowKit Go.Extern.Stop Go.Stop Go.Extern

theorem newReader_any (ao : Option Addr) (n c : Nat) (w : World) :
    Calls Tryf.prog 7 #[.slice ao n c] w fun e w' => e = .returned (.pointer (some ⟨w.heap.size, 0, none⟩)) ∧ w' = w.alloc (.cells #[.slice ao n c, .int .i64 0, .int .i64 (-1)] 42) := by
  go_enter Tryf.func7, Tryf.ntmps7
  go_wp2
  go_ret
  exact ⟨rfl, rfl⟩

theorem uint32_any (b off cap : Nat) (x0 x1 x2 x3 : Int) (w : World) (h0 : w.cell? ⟨b, off, none⟩ = some (.int .u8 x0)) (h1 : w.cell? ⟨b, off + 1, none⟩ = some (.int .u8 x1))
    (h2 : w.cell? ⟨b, off + 2, none⟩ = some (.int .u8 x2)) (h3 : w.cell? ⟨b, off + 3, none⟩ = some (.int .u8 x3))
    (b0 : 0 ≤ x0 ∧ x0 < 256) (b1 : 0 ≤ x1 ∧ x1 < 256) (b2 : 0 ≤ x2 ∧ x2 < 256) (b3 : 0 ≤ x3 ∧ x3 < 256) (hb : b < w.heap.size) :
    Calls Tryf.prog 16 #[.agg #[], .slice (some ⟨b, off, none⟩) 4 cap] w fun e w' => e = .returned (.int .u32 (be x0 x1 x2 x3)) ∧ w' = (w.alloc (.cells #[] 49)).drew := by
  have e4 : Hid (bits BinOp.or IntKind.u32 (bits BinOp.or IntKind.u32 (bits BinOp.or IntKind.u32 x3 (x2 * 256)) (x1 * 65536)) (x0 * 16777216) = be x0 x1 x2 x3) := be_bits x0 x1 x2 x3 b0 b1 b2 b3
  have h0' : ∀ o, (w.alloc o).cell? ⟨b, off, none⟩ = some (.int .u8 x0) := fun o => (World.cell?_alloc_past _ _ _ hb).trans h0
  have h1' : ∀ o, (w.alloc o).cell? ⟨b, off + 1, none⟩ = some (.int .u8 x1) := fun o => (World.cell?_alloc_past _ _ _ hb).trans h1
  have h2' : ∀ o, (w.alloc o).cell? ⟨b, off + 2, none⟩ = some (.int .u8 x2) := fun o => (World.cell?_alloc_past _ _ _ hb).trans h2
  have h3' : ∀ o, (w.alloc o).cell? ⟨b, off + 3, none⟩ = some (.int .u8 x3) := fun o => (World.cell?_alloc_past _ _ _ hb).trans h3
  obtain ⟨b00, b01⟩ := b0
  obtain ⟨b10, b11⟩ := b1
  obtain ⟨b20, b21⟩ := b2
  obtain ⟨b30, b31⟩ := b3
  go_enter Tryf.func16, Tryf.ntmps16
  go_wp2
  go_region
  all_goals (try go_wp2)
  all_goals (rw [← e4.out]; go_ret; exact ⟨rfl, rfl⟩)

theorem call19 (args : Array Value) (w : World) : (callFunc 19 args).run Tryf.prog w = ((FmtStop.errorf #[9, 54] #[29] args).run Tryf.prog w).andThen fun v w' => .ok (.value v) w' :=
  run_callFunc_extern Tryf.func19 (by kernel_rfl) (by kernel_rfl) (by kernel_rfl) (by kernel_rfl) args w
theorem guard_fmt (name : String) (w : World) : (FmtStop.guard name).run Tryf.prog w = .ok () w := by kernel_rfl
theorem fmt2 : FmtStop.printed? ⟨#[109, 101, 115, 115, 97, 103, 101, 32, 98, 111, 100, 121, 32, 111, 102, 32, 37, 100, 32, 98, 121, 116, 101, 115, 32, 105, 115, 32, 108, 111, 110, 103, 101, 114, 32, 116, 104, 97, 110, 32, 116, 104, 101, 32, 108, 105, 109, 105, 116, 32, 111, 102, 32, 37, 100]⟩ 2 = some [(0, 100, false), (1, 100, false)] := by kernel_rfl
theorem fmt2r (w : World) : (FmtDoors.printed ⟨#[109, 101, 115, 115, 97, 103, 101, 32, 98, 111, 100, 121, 32, 111, 102, 32, 37, 100, 32, 98, 121, 116, 101, 115, 32, 105, 115, 32, 108, 111, 110, 103, 101, 114, 32, 116, 104, 97, 110, 32, 116, 104, 101, 32, 108, 105, 109, 105, 116, 32, 111, 102, 32, 37, 100]⟩ 2).run Tryf.prog w = .ok [(0, 100, false), (1, 100, false)] w := by kernel_rfl
def shape3 : List UInt8 := [5, 3, 0, 0, 0, 0, 0, 0, 0, 105, 110, 116]
def shape27 : List UInt8 := [8, 6, 0, 0, 0, 0, 0, 0, 0, 117, 105, 110, 116, 51, 50]
theorem op3 (name : String) (x : Int) (w : World) : (FmtStop.operand name true 100 false (.iface 3 (.int .i64 x))).run Tryf.prog w = .ok (shape3, Go.Extern.Stop.digits 8 (x % 2 ^ 64).toNat) w := by kernel_rfl
theorem op27 (name : String) (x : Int) (w : World) : (FmtStop.operand name true 100 false (.iface 27 (.int .u32 x))).run Tryf.prog w = .ok (shape27, Go.Extern.Stop.digits 8 (x % 2 ^ 64).toNat) w := by kernel_rfl

end Go.Proofs.Qxb6614263aFmt
