/-
  lines.At (fmt.Errorf on the line number and the error), the error made by errors.New: WHATEVER TEXT fmt GIVES: an error that is not nil, in new memory. And the small makers.
-/
import Derived.Test.Qxb6613145aFmtNext
import Derived.Stop.CallBack
import Derived.Stop.IfaceNil
import Derived.Stop.FmtTextLaws
import GoSem.ClaimData
namespace Go.Proofs.Qxb6613145aFmt
open Go.RowKit Go.Extern.Stop Go.Stop Go.Extern

theorem fm_call38 (args : Array Value) (w : World) : (callFunc 38 args).run Tryf.prog w = ((FmtStop.errorf #[9, 77] #[32] args).run Tryf.prog w).andThen fun v w' => .ok (.value v) w' :=
  run_callFunc_extern Tryf.func38 (by kernel_rfl) (by kernel_rfl) (by kernel_rfl) (by kernel_rfl) args w
theorem fm_guard (name : String) (w : World) : (FmtStop.guard name).run Tryf.prog w = .ok () w := by kernel_rfl
theorem fm_fmt0 : FmtStop.printed? ⟨#[108, 105, 110, 101, 32, 37, 100, 58, 32, 37, 119]⟩ 2 = some [(0, 100, false), (1, 119, false)] := by kernel_rfl
theorem fm_fmt0r (w : World) : (FmtDoors.printed ⟨#[108, 105, 110, 101, 32, 37, 100, 58, 32, 37, 119]⟩ 2).run Tryf.prog w = .ok [(0, 100, false), (1, 119, false)] w := by kernel_rfl
def fm_shape3 : List UInt8 := [5, 3, 0, 0, 0, 0, 0, 0, 0, 105, 110, 116]
theorem fm_op3 (name : String) (x : Int) (w : World) : (FmtStop.operand name true 100 false (.iface 3 (.int .i64 x))).run Tryf.prog w = .ok (fm_shape3, Go.Extern.Stop.digits 8 (x % 2 ^ 64).toNat) w := by kernel_rfl
/-- The type's name of a listed datum. -/
def laidName : DataW Unit → String
  | .iface n _ => n
  | _ => ""
def fm_plain54 : List UInt8 := 14 :: FmtStop.pack (laidName Rows.laid_io_EOF).toUTF8.data.toList
theorem fm_opPlain54 (name : String) (a : Addr) (s : ByteArray) (w : World) (hc : w.cell? a = some (.string s)) :
    (FmtStop.operand name true 119 false (.iface 54 (.pointer (some a)))).run Tryf.prog w = .ok (fm_plain54, s.data.toList) w := by
  have h1 : (typeStr 54).run Tryf.prog w = .ok (laidName Rows.laid_io_EOF) w := by kernel_rfl
  have d2 : Tryf.t54.desc = .pointer 56 := rfl
  have d3 : Tryf.t56.desc = .named "errors.errorString" 55 := rfl
  simp [FmtStop.operand, h1, d2, d3, run_load, hc, fm_plain54, laidName, Rows.laid_io_EOF]
theorem fm_ptr78 (w : World) : (FmtStop.ptrTo "fmt.wrapError").run Tryf.prog w = .ok 78 w := by kernel_rfl
theorem fm_elem78 (w : World) : (elemOf 78).run Tryf.prog w = .ok 114 w := by kernel_rfl
theorem fm_isError54 (w : World) : (FmtDoors.textMethod 54 "Error").run Tryf.prog w = .ok true w := by kernel_rfl

set_option maxHeartbeats 400000 in
set_option maxRecDepth 100000 in
theorem errorf_calls (n : Int) (a : Addr) (s : ByteArray) (blk : Nat) (w : World)
    (hc0 : w.cell? ⟨blk, 0, none⟩ = some (.iface 3 (.int .i64 n))) (hc1 : w.cell? ⟨blk, 1, none⟩ = some (.iface 54 (.pointer (some a)))) (hs : w.cell? a = some (.string s)) :
    Calls Tryf.prog 30 #[.string ⟨#[108, 105, 110, 101, 32, 37, 100, 58, 32, 37, 119]⟩, .slice (some ⟨blk, 0, none⟩) 2 2] w fun e w' =>
      e = .returned (.iface 78 (.pointer (some ⟨w.heap.size, 0, none⟩))) ∧ ∃ o, w' = (w.alloc o).drew := by
  have hop := fm_opPlain54 "fmt.errorf" a s w hs
  have h1 := fm_call38
  have h2 := fm_guard
  have h3 := fm_fmt0
  have h4 := fm_fmt0r
  have h5 := fm_op3
  have h6 := fm_ptr78
  have h7 := fm_elem78
  have h8 := fm_isError54
  go_enter Tryf.func30, Tryf.ntmps30
  go_wp2
  go_ret
  exact ⟨rfl, _, rfl⟩
end Go.Proofs.Qxb6613145aFmt
