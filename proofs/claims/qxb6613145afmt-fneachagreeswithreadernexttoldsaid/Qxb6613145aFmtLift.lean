/-
  WHAT BOTH CARDS SHARE: the program's closed facts; a start in which the listed variables hold what they are listed with; the two variables that the roads read.
-/
import Derived.Test.Qxb6613145aFmtStops
import Derived.Test.Qxb6613145aFmtCards
import Derived.Test.Qxb6613145aFmtTie
import Derived.ProofKit
import Derived.Stop.JoinedTold
import Derived.Stop.JoinedAt
import Derived.Stop.LaidErr
import Derived.Deep.DeepLaidRun
import Derived.SevenTiedAt
namespace Go.Proofs.Qxb6613145aFmt
open Go.ChangeShapes Go.WideShapes Go.ChangeAt Go.RowKit Go.Kit
open Go.Extern.Stop Go.Stop Go.Extern

theorem Tryf_own : ownKnob Tryf.prog.godebug = none := by kernel_rfl
theorem Tryf_laidOut : laidOutB Tryf.pinned.checked.prog = true := by kernel_rfl
theorem Tryf_stops : Tryf.pinned.checked.prog.stops = ["fmt.errorf"] := by kernel_rfl
theorem Tryf_stopKnobs : Tryf.pinned.checked.prog.stopKnobs = [] := by kernel_rfl
theorem Tryf_quiet (os : Os) : Stop.quiet Tryf.pinned.checked.prog os := by
  intro k hk
  rw [Tryf_stopKnobs] at hk
  cases hk
theorem Tryf_cells56 : Tryf.prog.cellsOf 56 = 1 := by kernel_rfl
theorem Tryf_cells9 : Tryf.prog.cellsOf 9 = 1 := by kernel_rfl
theorem Tryf_g4 : Tryf.prog.globalNamed "io.EOF" = some 4 := by kernel_rfl
theorem Tryf_g4t : (Tryf.prog.globals[4]?).map (·.type) = some 32 := by kernel_rfl
theorem Tryf_g0 : Tryf.prog.globalNamed "bufio.ErrTooLong" = some 0 := by kernel_rfl
theorem Tryf_g6 : Tryf.prog.globalNamed "bufio.ErrAdvanceTooFar" = some 6 := by kernel_rfl
theorem Tryf_g6t : (Tryf.prog.globals[6]?).map (·.type) = some 32 := by kernel_rfl
theorem Tryf_g0t : (Tryf.prog.globals[0]?).map (·.type) = some 32 := by kernel_rfl

/-- The text of a listed datum. -/
def laidText : DataW Unit → ByteArray
  | .iface _ (.ptr (.agg [.lit (.string l)])) => ⟨l.toArray⟩
  | _ => ⟨#[]⟩
theorem Tryf_row54 (u : TypeId) (h : Tryf.prog.typeName? 3 u = some (laidName Rows.laid_io_EOF)) : u = 54 :=
  typeName_ptr_named (nm := "errors.errorString") (by kernel_rfl) (by kernel_rfl) (by decide) u h

/-- The variables' blocks are there. -/
theorem low7 {text : List UInt8} {r : List (String × DataW Unit)} {W : World} (h : laidMet Tryf.prog (("bufio.ErrAdvanceTooFar", .iface (laidName Rows.laid_io_EOF) (.ptr (.agg [.lit (.string text)]))) :: r) W) : 7 ≤ W.heap.size := by
  obtain ⟨a, t, hv, _, _, _⟩ := laid_sentinel h Tryf_g6 Tryf_g6t Tryf.underlying32 Tryf_row54 Tryf.underlying54 Tryf.underlying56 rfl rfl Tryf.underlying9 Tryf_cells56 Tryf_cells9
  have hg : W.cell? ⟨6, 0, none⟩ = some (.iface 54 (.pointer (some a))) := by simpa using World.var?_cell Tryf_g6 hv 0
  rcases Nat.lt_or_ge 6 W.heap.size with h' | h'
  · exact h'
  · simp [World.cell?, Array.getElem?_eq_none h'] at hg

/-- A start: the settled world with seven blocks more, the errors' structs. -/
def putG (h : Array Obj) (g a : Nat) : Array Obj := h.modify g fun
  | .cells _ t frozen => .cells #[.iface 54 (.pointer (some ⟨a, 0, none⟩))] t frozen
  | o => o
def laidW (P : Program) (os : Os) : World :=
  let n := (World.settled P os).heap.size
  let w0 := World.holding P os ⟨#[.cells #[.string (laidText Rows.laid_io_EOF)] 56, .cells #[.string (laidText Rows.laid_io_ErrNoProgress)] 56, .cells #[.string (laidText Rows.laid_bufio_ErrTooLong)] 56, .cells #[.string (laidText Rows.laid_bufio_ErrNegativeAdvance)] 56,
    .cells #[.string (laidText Rows.laid_bufio_ErrAdvanceTooFar)] 56, .cells #[.string (laidText Rows.laid_bufio_ErrBadReadCount)] 56, .cells #[.string (laidText Rows.laid_bufio_ErrFinalToken)] 56], #[], []⟩
  { w0 with heap := putG (putG (putG (putG (putG (putG (putG w0.heap 4 n) 3 (n + 1)) 0 (n + 2)) 5 (n + 3)) 6 (n + 4)) 2 (n + 5)) 1 (n + 6) }
set_option maxRecDepth 1000000 in
theorem laidW_met (os : Os) (args : Array Value) : laidMet Tryf.prog Rows.fnEachStopsAtKRow.laid ((laidW Tryf.prog os).forCall (fun _ _ => 0) ⟨#[], args, []⟩).memory :=
  laidMet_of_run3 8 (by kernel_rfl) (by kernel_rfl) (by kernel_rfl)
end Go.Proofs.Qxb6613145aFmt
