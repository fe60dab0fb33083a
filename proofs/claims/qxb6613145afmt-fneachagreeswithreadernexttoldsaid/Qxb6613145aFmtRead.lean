/-
  (*strings.Reader).Read. (The regions' lines are written by gen/read.py.)
-/
import Derived.Test.Qxb6613145aFmtSmall
import Derived.Lib.Strings
namespace Go.Proofs.Qxb6613145aFmt
open Go.RowKit
set_option maxRecDepth 100000

/-- The strings.Reader's cells. -/
def srC (s : ByteArray) (i : Nat) (pr : Int) : Array Value := #[.string s, .int .i64 (i : Nat), .int .i64 pr]

theorem read_eof {w : World} {sr : Nat} {s : ByteArray} {i : Nat} {pr : Int} {eofV bv : Value} (hS : Blk w.drew sr (srC s i pr) 60) (hG : w.drew.drew.cell? ⟨4, 0, none⟩ = some eofV) (hi : s.size ≤ i) :
    Calls Tryf.prog 59 #[(.pointer (some ⟨sr, 0, none⟩)), bv] w fun r w' => r = .returned (.tuple #[.int .i64 0, eofV]) ∧ w' = w.drew.drew := by
  have h1 : decide (((s.size : Nat) : Int) ≤ ((i : Nat) : Int)) = true := by simp; omega
  refine calls_E Tryf.func59 rfl Tryf.ntmps59 (by simp) (env2 _ _) _ (res2 Tryf.results59) ?_
  refine cE_list ?_
  refine lE_val (v := (.int .i64 0)) (x_assign (v := (.int .i64 0)) rfl) rfl (by decide) rfl ?_
  refine lE_val (v := .nilIface) (x_assign (v := .nilIface) rfl) rfl (by decide) rfl ?_
  refine lE_nil ?_
  refine cE_seq ?_
  refine cE_still (by kernel_rfl) (by kernel_rfl) ?_
  refine sE_val (v := (.pointer (some ⟨sr, 0, none⟩))) (x_move (v := (.pointer (some ⟨sr, 0, none⟩))) rfl) rfl (by decide) rfl ?_
  refine sE_val (v := (.pointer (some ⟨sr, 0, none⟩))) (x_nil rfl) rfl (by decide) rfl ?_
  refine sE_val (v := (.pointer (some ⟨sr, 1, none⟩))) (x_fld60 (i := 1) (by decide) rfl) rfl (by decide) rfl ?_
  refine sE_val (v := (.int .i64 (i : Nat))) (x_loadB (Tryf.isAgg2 _) rfl hS rfl) rfl (by decide) rfl ?_
  refine sE_val (v := (.pointer (some ⟨sr, 0, none⟩))) (x_move (v := (.pointer (some ⟨sr, 0, none⟩))) rfl) rfl (by decide) rfl ?_
  refine sE_val (v := (.pointer (some ⟨sr, 0, none⟩))) (x_nil rfl) rfl (by decide) rfl ?_
  refine sE_val (v := (.pointer (some ⟨sr, 0, none⟩))) (x_fld60 (i := 0) (by decide) rfl) rfl (by decide) rfl ?_
  refine sE_val (v := (.string s)) (x_loadB (Tryf.isAgg9 _) rfl hS rfl) rfl (by decide) rfl ?_
  refine sE_val (v := (.int .i64 (s.size : Nat))) (x_lenS rfl) rfl (by decide) rfl ?_
  refine sE_val (v := (.bool true)) (by rw [← h1]; exact x_geq2 rfl rfl) rfl (by decide) rfl ?_
  refine sE_nil ?_
  refine cE_condT rfl ?_
  refine cE_still (by kernel_rfl) (by kernel_rfl) ?_
  refine sE_val (v := eofV) (x_load (Tryf.isAgg32 _) rfl hG) rfl (by decide) rfl ?_
  refine sE_val (v := (.int .i64 0)) (x_assign (v := (.int .i64 0)) rfl) rfl (by decide) rfl ?_
  refine sE_val (v := eofV) (x_assign (v := eofV) rfl) rfl (by decide) rfl ?_
  refine sE_nil ?_
  exact cE_retE1 ⟨rfl, rfl⟩

theorem read_data {w : World} {sr : Nat} {s : ByteArray} {i : Nat} {pr : Int} {bf off m c : Nat} {bs ys : List UInt8} (hS : Blk w.drew sr (srC s i pr) 60) (hB : Blk w.drew bf (bs.map byteV).toArray 5) (hi : i < s.size) (hsz : s.size ≤ 1000000)
    (hys0 : ys = (s.data.toList.drop i).take m) (hfit : off + ys.length ≤ bs.length) :
    Calls Tryf.prog 59 #[(.pointer (some ⟨sr, 0, none⟩)), .slice (some ⟨bf, off, none⟩) m c] w fun r w' => r = .returned (.tuple #[.int .i64 (ys.length : Nat), .nilIface]) ∧ Blk w' sr (srC s (i + ys.length) (-1)) 60 ∧
      Blk w' bf ((bs.take off ++ ys ++ bs.drop (off + ys.length)).map byteV).toArray 5 ∧ Keep (fun k => k = sr ∨ k = bf) w w' := by
  have hne : bf ≠ sr := fun e => by
    subst e
    unfold Blk at hS hB
    rw [hS] at hB
    injection hB with hB
    injection hB with _ h2
    cases h2
  have h1 : decide (((s.size : Nat) : Int) ≤ ((i : Nat) : Int)) = false := by simp; omega
  have hys : ys = (s.extract i s.size).data.toList.take m := by
    rw [hys0]
    congr 1
    rw [ByteArray.data_extract]
    simp only [Array.toList_extract, List.extract_eq_take_drop]
    rw [List.take_of_length_le]
    rw [List.length_drop]
    exact Nat.le_refl _
  have hlen : ys.length ≤ s.size - i := by
    rw [hys0]
    have e : s.data.toList.length = s.size := rfl
    simp only [List.length_take, List.length_drop, e]
    omega
  refine calls_E Tryf.func59 rfl Tryf.ntmps59 (by simp) (env2 _ _) _ (res2 Tryf.results59) ?_
  refine cE_list ?_
  refine lE_val (v := (.int .i64 0)) (x_assign (v := (.int .i64 0)) rfl) rfl (by decide) rfl ?_
  refine lE_val (v := .nilIface) (x_assign (v := .nilIface) rfl) rfl (by decide) rfl ?_
  refine lE_nil ?_
  refine cE_seq ?_
  refine cE_still (by kernel_rfl) (by kernel_rfl) ?_
  refine sE_val (v := (.pointer (some ⟨sr, 0, none⟩))) (x_move (v := (.pointer (some ⟨sr, 0, none⟩))) rfl) rfl (by decide) rfl ?_
  refine sE_val (v := (.pointer (some ⟨sr, 0, none⟩))) (x_nil rfl) rfl (by decide) rfl ?_
  refine sE_val (v := (.pointer (some ⟨sr, 1, none⟩))) (x_fld60 (i := 1) (by decide) rfl) rfl (by decide) rfl ?_
  refine sE_val (v := (.int .i64 (i : Nat))) (x_loadB (Tryf.isAgg2 _) rfl hS rfl) rfl (by decide) rfl ?_
  refine sE_val (v := (.pointer (some ⟨sr, 0, none⟩))) (x_move (v := (.pointer (some ⟨sr, 0, none⟩))) rfl) rfl (by decide) rfl ?_
  refine sE_val (v := (.pointer (some ⟨sr, 0, none⟩))) (x_nil rfl) rfl (by decide) rfl ?_
  refine sE_val (v := (.pointer (some ⟨sr, 0, none⟩))) (x_fld60 (i := 0) (by decide) rfl) rfl (by decide) rfl ?_
  refine sE_val (v := (.string s)) (x_loadB (Tryf.isAgg9 _) rfl hS rfl) rfl (by decide) rfl ?_
  refine sE_val (v := (.int .i64 (s.size : Nat))) (x_lenS rfl) rfl (by decide) rfl ?_
  refine sE_val (v := (.bool false)) (by rw [← h1]; exact x_geq2 rfl rfl) rfl (by decide) rfl ?_
  refine sE_nil ?_
  refine cE_condF rfl (cE_skipT ?_)
  refine cE_list ?_
  refine lE_val (v := (.pointer (some ⟨sr, 0, none⟩))) (x_move (v := (.pointer (some ⟨sr, 0, none⟩))) rfl) rfl (by decide) rfl ?_
  refine lE_val (v := (.pointer (some ⟨sr, 0, none⟩))) (x_nil rfl) rfl (by decide) rfl ?_
  refine lE_val (v := (.pointer (some ⟨sr, 2, none⟩))) (x_fld60 (i := 2) (by decide) rfl) rfl (by decide) rfl ?_
  refine lE_skip (x_storeB (v := (.int .i64 (-1))) (Tryf.sizeOf3 _) rfl rfl rfl hS rfl) rfl rfl ?_
  refine lE_nil ?_
  have hS1 : Blk (w.drew.setCell ⟨sr, 2, none⟩ (.int .i64 (-1))) sr (srC s i (-1)) 60 := hS.setCell 2 _
  have hS2 : Blk (w.drew.setCell ⟨sr, 2, none⟩ (.int .i64 (-1))).drew sr (srC s i (-1)) 60 := hS1
  have hB2 : Blk (w.drew.setCell ⟨sr, 2, none⟩ (.int .i64 (-1))).drew bf (bs.map byteV).toArray 5 := Blk.setCell_ne hB hne 2 _
  refine cE_tail 10 (by kernel_rfl) (by kernel_rfl) ?_
  simp only [List.take_succ_cons, List.take_zero, List.drop_succ_cons, List.drop_zero]
  refine sE_val (v := (.slice (some ⟨bf, off, none⟩) m c)) (x_move (v := (.slice (some ⟨bf, off, none⟩) m c)) rfl) rfl (by decide) rfl ?_
  refine sE_val (v := (.pointer (some ⟨sr, 0, none⟩))) (x_move (v := (.pointer (some ⟨sr, 0, none⟩))) rfl) rfl (by decide) rfl ?_
  refine sE_val (v := (.pointer (some ⟨sr, 0, none⟩))) (x_nil rfl) rfl (by decide) rfl ?_
  refine sE_val (v := (.pointer (some ⟨sr, 0, none⟩))) (x_fld60 (i := 0) (by decide) rfl) rfl (by decide) rfl ?_
  refine sE_val (v := (.string s)) (x_loadB (Tryf.isAgg9 _) rfl hS2 rfl) rfl (by decide) rfl ?_
  refine sE_val (v := (.pointer (some ⟨sr, 0, none⟩))) (x_move (v := (.pointer (some ⟨sr, 0, none⟩))) rfl) rfl (by decide) rfl ?_
  refine sE_val (v := (.pointer (some ⟨sr, 0, none⟩))) (x_nil rfl) rfl (by decide) rfl ?_
  refine sE_val (v := (.pointer (some ⟨sr, 1, none⟩))) (x_fld60 (i := 1) (by decide) rfl) rfl (by decide) rfl ?_
  refine sE_val (v := (.int .i64 (i : Nat))) (x_loadB (Tryf.isAgg2 _) rfl hS2 rfl) rfl (by decide) rfl ?_
  refine sE_val (v := (.string (s.extract i s.size))) (x_sliceS rfl rfl (by omega)) rfl (by decide) rfl ?_
  refine sE_nil ?_
  refine lE_val (v := (.int .i64 (ys.length : Nat))) (x_copyS rfl rfl hB2 hys hfit) rfl (by decide) rfl ?_
  refine lE_val (v := (.int .i64 (ys.length : Nat))) (x_assign (v := (.int .i64 (ys.length : Nat))) rfl) rfl (by decide) rfl ?_
  refine lE_nil ?_
  have hS3 : Blk ((w.drew.setCell ⟨sr, 2, none⟩ (.int .i64 (-1))).drew.setRow bf ((bs.take off ++ ys ++ bs.drop (off + ys.length)).map byteV).toArray) sr (srC s i (-1)) 60 := hS2.setRow_ne (Ne.symm hne)
  have hB3 : Blk ((w.drew.setCell ⟨sr, 2, none⟩ (.int .i64 (-1))).drew.setRow bf ((bs.take off ++ ys ++ bs.drop (off + ys.length)).map byteV).toArray) bf ((bs.take off ++ ys ++ bs.drop (off + ys.length)).map byteV).toArray 5 := hB2.setRow
  refine cE_list ?_
  refine lE_val (v := (.pointer (some ⟨sr, 0, none⟩))) (x_move (v := (.pointer (some ⟨sr, 0, none⟩))) rfl) rfl (by decide) rfl ?_
  refine lE_val (v := (.pointer (some ⟨sr, 0, none⟩))) (x_nil rfl) rfl (by decide) rfl ?_
  refine lE_val (v := (.pointer (some ⟨sr, 1, none⟩))) (x_fld60 (i := 1) (by decide) rfl) rfl (by decide) rfl ?_
  refine lE_val (v := (.int .i64 (i : Nat))) (x_loadB (Tryf.isAgg2 _) rfl hS3 rfl) rfl (by decide) rfl ?_
  refine lE_val (v := (.int .i64 (ys.length : Nat))) (x_move (v := (.int .i64 (ys.length : Nat))) rfl) rfl (by decide) rfl ?_
  refine lE_val (v := (.int .i64 (i + ys.length : Nat))) (x_add2 (r := ((i + ys.length : Nat) : Int)) rfl rfl (by omega) (by omega) (by omega)) rfl (by decide) rfl ?_
  refine lE_val (v := (.pointer (some ⟨sr, 0, none⟩))) (x_nil rfl) rfl (by decide) rfl ?_
  refine lE_val (v := (.pointer (some ⟨sr, 1, none⟩))) (x_fld60 (i := 1) (by decide) rfl) rfl (by decide) rfl ?_
  refine lE_skip (x_storeB (v := (.int .i64 (i + ys.length : Nat))) (Tryf.sizeOf2 _) rfl rfl rfl hS3 rfl) rfl rfl ?_
  refine lE_nil ?_
  refine cE_retE ⟨rfl, hS3.setCell 1 _, hB3.setCell_ne hne 1 _, ?_⟩
  exact (((Keep.refl _ w).drew.setCell (Or.inl rfl) _).drew.setRow (Or.inr rfl) _).setCell (Or.inl rfl) _

end Go.Proofs.Qxb6613145aFmt
