/-
  The card of FnReadHeaderHangsOnTheFirstNineBytesAlone: fmt's text told, the three listed variables tied.
-/
import Derived.Test.Qxb6614263aFmtHangs
import Derived.Test.Qxb6614263aFmtCards
import Derived.Test.Qxb6614263aFmtTie
import Derived.ProofKit
import Derived.Stop.JoinedAt
import Derived.Stop.JoinedTold
import Derived.Stop.LaidErr
import Derived.SevenTiedAt
import Derived.SizedLaws
namespace Go.Proofs.Qxb6614263aFmt.hangs
open Go.ChangeShapes Go.WideShapes Go.ChangeAt Go.RowKit Go.Kit
open Go.Extern.Stop Go.Stop Go.Extern
set_option linter.unusedVariables false

theorem own : ownKnob Tryf.prog.godebug = none := by kernel_rfl
theorem laidOut : laidOutB Tryf.pinned.checked.prog = true := by kernel_rfl
theorem laidOut' : laidOutB Tryf.prog = true := by kernel_rfl
theorem stops : Tryf.pinned.checked.prog.stops = ["fmt.errorf"] := by kernel_rfl
theorem stopKnobs : Tryf.pinned.checked.prog.stopKnobs = [] := by kernel_rfl
theorem quiet (os : Os) : Stop.quiet Tryf.pinned.checked.prog os := by
  intro k hk
  rw [stopKnobs] at hk
  cases hk
theorem cells60 : Tryf.prog.cellsOf 60 = 1 := by kernel_rfl
theorem cells9 : Tryf.prog.cellsOf 9 = 1 := by kernel_rfl
theorem cells5 : Tryf.prog.cellsOf 5 = 1 := by kernel_rfl
/-- The dynamic type's name in a listed datum. -/
def nameOf : DataW Unit → String
  | .iface nm _ => nm
  | _ => ""
theorem row58 (u : TypeId) (h : Tryf.prog.typeName? 3 u = some (nameOf Rows.laid_io_EOF)) : u = 58 :=
  typeName_ptr_named (nm := "errors.errorString") (by simp only [String.reduceAppend]; kernel_rfl) (by kernel_rfl) (by decide) u (by simp only [String.reduceAppend]; exact h)
theorem g2 : Tryf.prog.globalNamed "io.EOF" = some 2 := by kernel_rfl
theorem g2t : (Tryf.prog.globals[2]?).map (·.type) = some 29 := by kernel_rfl
theorem g3 : Tryf.prog.globalNamed "io.ErrUnexpectedEOF" = some 3 := by kernel_rfl
theorem g3t : (Tryf.prog.globals[3]?).map (·.type) = some 29 := by kernel_rfl

theorem byte_getD (zs : List Int) (hw : ∀ z ∈ zs, (Lit.int .u8 z).wf = true) : Bytes zs := fun j => by
  rw [List.getD_eq_getElem?_getD]
  cases h : zs[j]? with
  | none => simp
  | some v => have := bounds_u8 (hw v (List.mem_of_getElem? h)); simp; omega

/-- All the walks at one place. -/
theorem walk (F : Interp) (ao : Option Addr) (n c : Nat) (tq : Option Addr) (m d : Nat) (xs ts : List Int) (a2 a3 : Addr) (w : World) (hF : F.answers w.tape) (h3 : 3 < w.heap.size) (hxn : xs.length = n ∧ Bytes xs) (htm : ts.length = m ∧ Bytes ts)
    (hao : (ao = none ∧ n = 0 ∧ c = 0) ∨ ∃ a, ao = some a ∧ ∀ j, j < n → w.cell? (a.add j) = some (.int .u8 (xs.getD j 0)))
    (hto : (tq = none ∧ m = 0 ∧ d = 0) ∨ ∃ a, tq = some a ∧ ∀ j, j < m → w.cell? (a.add j) = some (.int .u8 (ts.getD j 0)))
    (hE : w.cell? ⟨2, 0, none⟩ = some (.iface 58 (.pointer (some a2)))) (hU : w.cell? ⟨3, 0, none⟩ = some (.iface 58 (.pointer (some a3)))) :
    Calls Tryf.prog 4 #[.slice ao n c, .slice tq m d] w fun e w' => e = .returned (.bool true) ∧ Kept [] w w' := by
  rcases Nat.lt_or_ge 1048576 (n + m) with hb | hb
  · exact hangs_long ao n c tq m d w hb
  · rcases Nat.lt_or_ge n 9 with h9 | h9
    · exact hangs_short F ao n c tq m d xs ts a2 a3 w h9 hb hxn.1 htm.1 hxn.2 hF h3 hao hto hE hU
    · rcases hao with ⟨_, h0, _⟩ | ⟨a, rfl, hc⟩
      · omega
      · by_cases hm : m = 0
        · subst hm
          exact hangs_zero F a n c tq d xs a2 a3 w h9 hb hxn.1 hxn.2 hF h3 hc (hto.elim (fun h => Or.inl ⟨h.1, h.2.2⟩) (fun ⟨b, h, _⟩ => Or.inr ⟨b, h⟩)) hE hU
        · rcases hto with ⟨_, h0, _⟩ | ⟨b, rfl, hd⟩
          · omega
          · exact hangs_pos F a n c b m d xs a2 a3 w h9 hb hxn.1 hxn.2 hF h3 hc ts htm.1 (by omega) hd htm.2 hE hU

/-- What a slice of bytes that came in reads as, for the walk. -/
theorem view {H : Type} {enc : TypeId × Value → H} {W : World} {a0 : Option Addr} {len cap : Nat} {d : DataW H} {ps : List MemPlace} (h : DataW.Trod enc Tryf.prog W 0 (fun _ => true) true 22 (.slice a0 len cap) d ps) :
    ∃ xs : List Int, (xs.length = len ∧ Bytes xs) ∧ ((a0 = none ∧ len = 0 ∧ cap = 0) ∨ ∃ a, a0 = some a ∧ ∀ j, j < len → W.cell? (a.add j) = some (.int .u8 (xs.getD j 0))) := by
  obtain ⟨fuel, hf⟩ := h
  rcases open_ints Tryf.underlying22 Tryf.underlying5 cells5 hf with ⟨hcs, hx⟩ | ⟨a, len', cap', zs, hcs, _, hl, hm, hz, hx, hcell, hwz⟩
  · simp [Value.cells] at hcs
    obtain ⟨rfl, rfl, rfl⟩ := hcs
    exact ⟨[], ⟨rfl, fun j => by simp⟩, Or.inl ⟨rfl, rfl, rfl⟩⟩
  · simp [Value.cells] at hcs
    obtain ⟨rfl, rfl, rfl⟩ := hcs
    simp only [if_true] at hz
    refine ⟨zs.take len, ⟨by simp; omega, byte_getD _ (fun z hz' => hwz z (List.mem_of_mem_take hz'))⟩, Or.inr ⟨a, rfl, fun j hj => ?_⟩⟩
    rw [hcell j (by omega)]
    simp [List.getD_eq_getElem?_getD, hj]

set_option maxRecDepth 100000 in
set_option maxHeartbeats 4000000 in
theorem lifted (os : Os) (started : os.Started) (H : Type) (enc : TypeId × Value → H) :
    ReturnsInTold none {} Tryf.checked os 4 .any Input.okWide ((OpenSpec.ofChange Rows.fnReadHeaderHangsOnTheFirstNineBytesAloneSpec).preRow enc Tryf.prog Tryf.f4 Rows.fnReadHeaderHangsOnTheFirstNineBytesAloneRow.domain false Rows.fnReadHeaderHangsOnTheFirstNineBytesAloneRow.laid)
      (fun F => ((OpenSpec.ofChange Rows.fnReadHeaderHangsOnTheFirstNineBytesAloneSpec).at F).post enc Tryf.prog Tryf.f4 false true false false) (aloneAtReturn Tryf.prog) nothingAlways := by
  refine returnsInTold_of_row (C := Tryf.checked) (s := OpenSpec.ofChange Rows.fnReadHeaderHangsOnTheFirstNineBytesAloneSpec) (by kernel_rfl) own started (by kernel_rfl) Tryf.func4
    (OpenSpec.witness_stopped_at (enc := enc) (C := Tryf.checked) false
      { World.holding Tryf.prog os ⟨#[.cells #[.string ⟨#[115, 104, 111, 114, 116, 32, 98, 117, 102, 102, 101, 114]⟩] 60, .cells #[.string ⟨#[69, 79, 70]⟩] 60, .cells #[.string ⟨#[117, 110, 101, 120, 112, 101, 99, 116, 101, 100, 32, 69, 79, 70]⟩] 60], #[], []⟩ with
        heap := (((World.holding Tryf.prog os ⟨#[.cells #[.string ⟨#[115, 104, 111, 114, 116, 32, 98, 117, 102, 102, 101, 114]⟩] 60, .cells #[.string ⟨#[69, 79, 70]⟩] 60, .cells #[.string ⟨#[117, 110, 101, 120, 112, 101, 99, 116, 101, 100, 32, 69, 79, 70]⟩] 60], #[], []⟩).heap.modify 1 fun
          | .cells _ t frozen => .cells #[.iface 58 (.pointer (some ⟨(World.settled Tryf.prog default).heap.size, 0, none⟩))] t frozen
          | o => o).modify 2 fun
          | .cells _ t frozen => .cells #[.iface 58 (.pointer (some ⟨(World.settled Tryf.prog default).heap.size + 1, 0, none⟩))] t frozen
          | o => o).modify 3 fun
          | .cells _ t frozen => .cells #[.iface 58 (.pointer (some ⟨(World.settled Tryf.prog default).heap.size + 2, 0, none⟩))] t frozen
          | o => o }
      #[.slice none 0 0, .slice none 0 0] rfl (by kernel_rfl) (by kernel_rfl) (by kernel_rfl)
      (OpenSpec.preRow_of_B rfl 8 (by kernel_rfl) (by kernel_rfl) (laidMet_of_run (ps := [.cell 1 0, .cell (World.settled Tryf.prog default).heap.size 0, .cell 2 0, .cell ((World.settled Tryf.prog default).heap.size + 1) 0, .cell 3 0, .cell ((World.settled Tryf.prog default).heap.size + 2) 0]) 8 (by kernel_rfl) (by kernel_rfl) (by kernel_rfl)))) ?_
  intro F W base args ds gs before _ hF hval0 hW _ _ _ hL _
  have hval : ∀ (j : Nat) t v, Tryf.f4.params[j]? = some t → args[j]? = some v → Value.okWide Tryf.prog W .any base t v := hval0
  have hW' := hW
  obtain ⟨p, q, hA0, hV0, rfl, hfz, hnd⟩ := hW
  have hA : DataW.TrodAll enc Tryf.prog W 0 (fun _ => true) true Tryf.f4.params.toList args.toList ds p := hA0
  rw [Tryf.params4] at hA hval
  obtain ⟨v0, v1, d0, d1, p0, p1, rfl, rfl, rfl, h0, h1⟩ := trodAll_two hA
  obtain ⟨rfl, rfl⟩ := trodVars_none hV0
  obtain ⟨a0, len, cap, rfl⟩ := okWide_slice Tryf.underlying22 (hval 0 22 v0 rfl rfl)
  obtain ⟨a1, len1, cap1, rfl⟩ := okWide_slice Tryf.underlying22 (hval 1 22 v1 rfl rfl)
  have hL' : laidMet Tryf.prog Rows.fnReadHeaderHangsOnTheFirstNineBytesAloneRow.laid W := hL
  obtain ⟨a2, s2, hv2, hc2, hs2, hz2⟩ := laid_sentinel hL'.tail g2 g2t Tryf.underlying29 row58 Tryf.underlying58 Tryf.underlying60 rfl rfl Tryf.underlying9 cells60 cells9
  obtain ⟨a3, s3, hv3, hc3, hs3, hz3⟩ := laid_sentinel hL'.tail.tail g3 g3t Tryf.underlying29 row58 Tryf.underlying58 Tryf.underlying60 rfl rfl Tryf.underlying9 cells60 cells9
  clear hA0 hV0 hval0
  have hE : W.cell? ⟨2, 0, none⟩ = some (.iface 58 (.pointer (some a2))) := by simpa using World.var?_cell g2 hv2 0
  have hU : W.cell? ⟨3, 0, none⟩ = some (.iface 58 (.pointer (some a3))) := by simpa using World.var?_cell g3 hv3 0
  have h3 : 3 < W.heap.size := by
    rcases Nat.lt_or_ge 3 W.heap.size with h' | h'
    · exact h'
    · simp [World.cell?, Array.getElem?_eq_none h'] at hU
  have hlt0 : ∀ x ∈ p0, x.block < W.heap.size := fun x hx => by simpa using hW'.lt x (by simp [hx])
  have hlt1 : ∀ x ∈ p1, x.block < W.heap.size := fun x hx => by simpa using hW'.lt x (by simp [hx])
  obtain ⟨xs, hx1, hx2⟩ := view h0
  obtain ⟨ts, ht1, ht2⟩ := view h1
  refine (walk F.told a0 len cap a1 len1 cap1 xs ts a2 a3 W hF h3 hx1 ht1 hx2 ht2 hE hU).mono ?_
  rintro e W' ⟨rfl, hk⟩
  have bel : Below W.heap.size W W' := hk.toBelow (by simp) (Nat.le_refl _)
  refine ⟨_, rfl, _, _, _, [], p0 ++ p1, [], hW', ?_, ?_, rfl, bel.frame _, fun h => by cases h⟩
  · exact trodAll_mk1 (shut_bool Tryf.underlying4 _)
  · exact trodAll_mk2 (Below.trod laidOut' (by kernel_rfl) (of_decide_eq_true (by kernel_rfl)) h0 bel hlt0) (Below.trod laidOut' (by kernel_rfl) (of_decide_eq_true (by kernel_rfl)) h1 bel hlt1)

theorem proved : Rows.FnReadHeaderHangsOnTheFirstNineBytesAloneToldSaid :=
  Claim7.holds_of_told_tied_any_at .later 4 Tryf.f4 "fmt.errorf" [] [] _ _ _ _ _ (by kernel_rfl) rfl rfl rfl laidOut (by kernel_rfl) rfl ⟨rfl, rfl, rfl, rfl, rfl, rfl, rfl⟩ rfl rfl (by kernel_rfl) (by kernel_rfl) Tryf.func4 (by kernel_rfl)
    (of_decide_eq_true (by kernel_rfl)) (of_decide_eq_true (by kernel_rfl)) stops.symm rfl stopKnobs.symm (by kernel_rfl)
    (by kernel_rfl) (by kernel_rfl) (by kernel_rfl) (by kernel_rfl) (by kernel_rfl) (by kernel_rfl) (by kernel_rfl) (by kernel_rfl) (by kernel_rfl) rfl (by kernel_rfl) rfl rfl
    rfl rfl
    rfl (by kernel_rfl) (by kernel_rfl) (by kernel_rfl) (by decide) (by kernel_rfl) fnReadHeaderHangsOnTheFirstNineBytesAlone_row_tie
    (OpenClaim.moreEntering_of (by kernel_rfl) (by kernel_rfl) (by kernel_rfl) (by kernel_rfl) (by kernel_rfl) (by kernel_rfl) (by kernel_rfl) (by kernel_rfl) (by kernel_rfl) (by kernel_rfl))
    ⟨_, WideRow.started_initial, quiet _⟩
    (fun os started _ H enc _ => lifted os started H enc)

end Go.Proofs.Qxb6614263aFmt.hangs
