/-
  (*bufio.Scanner).Scan, a piece. (The regions' lines are written by gen/scan.py.)
-/
import Derived.Test.Qxb6613145aFmtScanB
namespace Go.Proofs.Qxb6613145aFmt
open Go.RowKit
set_option maxRecDepth 100000


theorem seg4_no {c : Code} (h : findCond 195 (Tryf.f26.body.getD .skip) = some c) {Q : Exit → Env → World → Prop} {E : Env} {w : World} {sc : Nat} {rd tok err : Value} {cl : Bool} (hE : E 0 = .pointer (some ⟨sc, 0, none⟩)) {bf L st en : Nat} (hB : Blk w sc (scC rd tok (.slice (some ⟨bf, 0, none⟩) L L) st en err cl) 67) (hen : en ≠ L)
    (hQ : ∀ E' w', E' 0 = .pointer (some ⟨sc, 0, none⟩) → Blk w' sc (scC rd tok (.slice (some ⟨bf, 0, none⟩) L L) st en err cl) 67 → Keep (fun k => k = sc) w w' → Q .normal E' w') : cE Tryf.prog 334 c Q E w := by
  cases h
  rw [upd_self hE]
  have h1 : (((en : Nat) : Int) == ((L : Nat) : Int)) = false := by rw [beq_eq_false_iff_ne]; omega
  have hB1 : Blk w.drew sc (scC rd tok (.slice (some ⟨bf, 0, none⟩) L L) st en err cl) 67 := hB
  refine cE_still (by kernel_rfl) (by kernel_rfl) ?_
  refine sE_val (v := (.pointer (some ⟨sc, 0, none⟩))) (x_move (v := (.pointer (some ⟨sc, 0, none⟩))) rfl) rfl (by decide) rfl ?_
  refine sE_val (v := (.pointer (some ⟨sc, 0, none⟩))) (x_nil rfl) rfl (by decide) rfl ?_
  refine sE_val (v := (.pointer (some ⟨sc, 6, none⟩))) (x_fld (i := 6) (by decide) rfl) rfl (by decide) rfl ?_
  refine sE_val (v := (.int .i64 (en : Nat))) (x_loadB (Tryf.isAgg3 _) rfl hB1 rfl) rfl (by decide) rfl ?_
  refine sE_val (v := (.pointer (some ⟨sc, 0, none⟩))) (x_move (v := (.pointer (some ⟨sc, 0, none⟩))) rfl) rfl (by decide) rfl ?_
  refine sE_val (v := (.pointer (some ⟨sc, 0, none⟩))) (x_nil rfl) rfl (by decide) rfl ?_
  refine sE_val (v := (.pointer (some ⟨sc, 4, none⟩))) (x_fld (i := 4) (by decide) rfl) rfl (by decide) rfl ?_
  refine sE_val (v := (.slice (some ⟨bf, 0, none⟩) L L)) (x_loadB (Tryf.isAgg65 _) rfl hB1 rfl) rfl (by decide) rfl ?_
  refine sE_val (v := (.int .i64 (L : Nat))) (x_len rfl) rfl (by decide) rfl ?_
  refine sE_val (v := (.bool false)) (by rw [← h1]; exact x_eql rfl rfl) rfl (by decide) rfl ?_
  refine sE_nil ?_
  refine cE_condF rfl (cE_skipN ?_)
  exact hQ _ _ rfl hB1 (Keep.refl _ w).drew

theorem seg4_nil {c : Code} (h : findCond 195 (Tryf.f26.body.getD .skip) = some c) {Q : Exit → Env → World → Prop} {E : Env} {w : World} {sc : Nat} {rd tok err : Value} {cl : Bool} (hE : E 0 = .pointer (some ⟨sc, 0, none⟩)) (hB : Blk w sc (scC rd tok (.slice none 0 0) 0 0 err cl) 67)
    (hQ : ∀ E' w', E' 0 = .pointer (some ⟨sc, 0, none⟩) → Blk w' sc (scC rd tok (.slice (some ⟨w.heap.size, 0, none⟩) 4096 4096) 0 0 err cl) 67 → Blk w' w.heap.size ((List.replicate 4096 0).map byteV).toArray 5 → Keep (fun k => k = sc) w w' → Q .normal E' w') : cE Tryf.prog 334 c Q E w := by
  cases h
  rw [upd_self hE]
  have hne : sc ≠ w.heap.size := Nat.ne_of_lt hB.lt
  have h1 : (((0 : Nat) : Int) == ((0 : Nat) : Int)) = true := by rw [beq_iff_eq]
  have h2 : decide ((1048576 : Int) ≤ ((0 : Nat) : Int)) = false := by simp
  have h3 : decide ((4611686018427387903 : Int) < ((0 : Nat) : Int)) = false := by simp
  have h4 : (((0 * 2 : Nat) : Int) == 0) = true := rfl
  have hB1 : Blk w.drew sc (scC rd tok (.slice none 0 0) 0 0 err cl) 67 := hB
  refine cE_still (by kernel_rfl) (by kernel_rfl) ?_
  refine sE_val (v := (.pointer (some ⟨sc, 0, none⟩))) (x_move (v := (.pointer (some ⟨sc, 0, none⟩))) rfl) rfl (by decide) rfl ?_
  refine sE_val (v := (.pointer (some ⟨sc, 0, none⟩))) (x_nil rfl) rfl (by decide) rfl ?_
  refine sE_val (v := (.pointer (some ⟨sc, 6, none⟩))) (x_fld (i := 6) (by decide) rfl) rfl (by decide) rfl ?_
  refine sE_val (v := (.int .i64 (0 : Nat))) (x_loadB (Tryf.isAgg3 _) rfl hB1 rfl) rfl (by decide) rfl ?_
  refine sE_val (v := (.pointer (some ⟨sc, 0, none⟩))) (x_move (v := (.pointer (some ⟨sc, 0, none⟩))) rfl) rfl (by decide) rfl ?_
  refine sE_val (v := (.pointer (some ⟨sc, 0, none⟩))) (x_nil rfl) rfl (by decide) rfl ?_
  refine sE_val (v := (.pointer (some ⟨sc, 4, none⟩))) (x_fld (i := 4) (by decide) rfl) rfl (by decide) rfl ?_
  refine sE_val (v := (.slice none 0 0)) (x_loadB (Tryf.isAgg65 _) rfl hB1 rfl) rfl (by decide) rfl ?_
  refine sE_val (v := (.int .i64 (0 : Nat))) (x_len rfl) rfl (by decide) rfl ?_
  refine sE_val (v := (.bool true)) (by rw [← h1]; exact x_eql rfl rfl) rfl (by decide) rfl ?_
  refine sE_nil ?_
  refine cE_condT rfl ?_
  refine cE_seq ?_
  have hB2 : Blk w.drew.drew sc (scC rd tok (.slice none 0 0) 0 0 err cl) 67 := hB1
  refine cE_still (by kernel_rfl) (by kernel_rfl) ?_
  refine sE_val (v := (.pointer (some ⟨sc, 0, none⟩))) (x_move (v := (.pointer (some ⟨sc, 0, none⟩))) rfl) rfl (by decide) rfl ?_
  refine sE_val (v := (.pointer (some ⟨sc, 0, none⟩))) (x_nil rfl) rfl (by decide) rfl ?_
  refine sE_val (v := (.pointer (some ⟨sc, 4, none⟩))) (x_fld (i := 4) (by decide) rfl) rfl (by decide) rfl ?_
  refine sE_val (v := (.slice none 0 0)) (x_loadB (Tryf.isAgg65 _) rfl hB2 rfl) rfl (by decide) rfl ?_
  refine sE_val (v := (.int .i64 (0 : Nat))) (x_len rfl) rfl (by decide) rfl ?_
  refine sE_val (v := (.pointer (some ⟨sc, 0, none⟩))) (x_move (v := (.pointer (some ⟨sc, 0, none⟩))) rfl) rfl (by decide) rfl ?_
  refine sE_val (v := (.pointer (some ⟨sc, 0, none⟩))) (x_nil rfl) rfl (by decide) rfl ?_
  refine sE_val (v := (.pointer (some ⟨sc, 2, none⟩))) (x_fld (i := 2) (by decide) rfl) rfl (by decide) rfl ?_
  refine sE_val (v := (.int .i64 1048576)) (x_loadB (Tryf.isAgg3 _) rfl hB2 rfl) rfl (by decide) rfl ?_
  refine sE_val (v := (.bool false)) (by rw [← h2]; exact x_geq rfl rfl) rfl (by decide) rfl ?_
  refine sE_val (v := (.bool false)) (x_move (v := (.bool false)) rfl) rfl (by decide) rfl ?_
  refine sE_gval (v := (.pointer (some ⟨sc, 0, none⟩))) (x_move (v := (.pointer (some ⟨sc, 0, none⟩))) rfl) rfl (by decide) rfl rfl (by decide) rfl ?_
  refine sE_gval (v := (.pointer (some ⟨sc, 0, none⟩))) (x_nil rfl) rfl (by decide) rfl rfl (by decide) rfl ?_
  refine sE_gval (v := (.pointer (some ⟨sc, 4, none⟩))) (x_fld (i := 4) (by decide) rfl) rfl (by decide) rfl rfl (by decide) rfl ?_
  refine sE_gval (v := (.slice none 0 0)) (x_loadB (Tryf.isAgg65 _) rfl hB2 rfl) rfl (by decide) rfl rfl (by decide) rfl ?_
  refine sE_gval (v := (.int .i64 (0 : Nat))) (x_len rfl) rfl (by decide) rfl rfl (by decide) rfl ?_
  refine sE_gval (v := (.bool false)) (by rw [← h3]; exact x_gtr rfl rfl) rfl (by decide) rfl rfl (by decide) rfl ?_
  refine sE_val (v := (.bool false)) (x_pickF (v := (.bool false)) rfl rfl) rfl (by decide) rfl ?_
  refine sE_nil ?_
  refine cE_condF rfl (cE_skipT ?_)
  refine cE_list ?_
  refine lE_val (v := (.pointer (some ⟨sc, 0, none⟩))) (x_move (v := (.pointer (some ⟨sc, 0, none⟩))) rfl) rfl (by decide) rfl ?_
  refine lE_val (v := (.pointer (some ⟨sc, 0, none⟩))) (x_nil rfl) rfl (by decide) rfl ?_
  refine lE_val (v := (.pointer (some ⟨sc, 4, none⟩))) (x_fld (i := 4) (by decide) rfl) rfl (by decide) rfl ?_
  refine lE_val (v := (.slice none 0 0)) (x_loadB (Tryf.isAgg65 _) rfl hB2 rfl) rfl (by decide) rfl ?_
  refine lE_val (v := (.int .i64 (0 : Nat))) (x_len rfl) rfl (by decide) rfl ?_
  refine lE_val (v := (.int .i64 (0 * 2 : Nat))) (x_mul (r := ((0 * 2 : Nat) : Int)) rfl rfl (by omega) (by omega) (by omega)) rfl (by decide) rfl ?_
  refine lE_val (v := (.int .i64 (0 * 2 : Nat))) (x_assign (v := (.int .i64 (0 * 2 : Nat))) rfl) rfl (by decide) rfl ?_
  refine lE_nil ?_
  refine cE_seq ?_
  refine cE_list ?_
  refine lE_val (v := (.int .i64 (0 * 2 : Nat))) (x_move (v := (.int .i64 (0 * 2 : Nat))) rfl) rfl (by decide) rfl ?_
  refine lE_val (v := (.bool true)) (by rw [← h4]; exact x_eql rfl rfl) rfl (by decide) rfl ?_
  refine lE_nil ?_
  refine cE_condT rfl ?_
  refine cE_list_lastT ?_
  refine lE_val (v := (.int .i64 4096)) (x_assign (v := (.int .i64 4096)) rfl) rfl (by decide) rfl ?_
  refine lE_nil ?_
  refine cE_list ?_
  refine lE_val (v := (.int .i64 4096)) (x_move (v := (.int .i64 4096)) rfl) rfl (by decide) rfl ?_
  refine lE_val (v := (.pointer (some ⟨sc, 0, none⟩))) (x_move (v := (.pointer (some ⟨sc, 0, none⟩))) rfl) rfl (by decide) rfl ?_
  refine lE_val (v := (.pointer (some ⟨sc, 0, none⟩))) (x_nil rfl) rfl (by decide) rfl ?_
  refine lE_val (v := (.pointer (some ⟨sc, 2, none⟩))) (x_fld (i := 2) (by decide) rfl) rfl (by decide) rfl ?_
  refine lE_val (v := (.int .i64 1048576)) (x_loadB (Tryf.isAgg3 _) rfl hB2 rfl) rfl (by decide) rfl ?_
  refine lE_val (v := (.int .i64 4096)) (x_min rfl rfl (by omega)) rfl (by decide) rfl ?_
  refine lE_val (v := (.int .i64 4096)) (x_assign (v := (.int .i64 4096)) rfl) rfl (by decide) rfl ?_
  refine lE_nil ?_
  refine cE_list ?_
  refine lE_val (v := (.int .i64 4096)) (x_move (v := (.int .i64 4096)) rfl) rfl (by decide) rfl ?_
  refine lE_val (v := (.slice (some ⟨w.heap.size, 0, none⟩) 4096 4096)) (x_make (n := 4096) rfl rfl (by omega)) rfl (by decide) rfl ?_
  refine lE_val (v := (.slice (some ⟨w.heap.size, 0, none⟩) 4096 4096)) (x_assign (v := (.slice (some ⟨w.heap.size, 0, none⟩) 4096 4096)) rfl) rfl (by decide) rfl ?_
  refine lE_nil ?_
  have hB3 : Blk (w.drew.drew.alloc (.cells ((List.replicate 4096 0).map byteV).toArray 5)) sc (scC rd tok (.slice none 0 0) 0 0 err cl) 67 := hB2.alloc _
  have hN1 : Blk (w.drew.drew.alloc (.cells ((List.replicate 4096 0).map byteV).toArray 5)) w.heap.size ((List.replicate 4096 0).map byteV).toArray 5 := Blk.alloc_new w.drew.drew _ _
  have hB4 : Blk (w.drew.drew.alloc (.cells ((List.replicate 4096 0).map byteV).toArray 5)).drew sc (scC rd tok (.slice none 0 0) 0 0 err cl) 67 := hB3
  have hN2 : Blk (w.drew.drew.alloc (.cells ((List.replicate 4096 0).map byteV).toArray 5)).drew w.heap.size ((List.replicate 4096 0).map byteV).toArray 5 := hN1
  refine cE_tail 14 (by kernel_rfl) (by kernel_rfl) ?_
  simp only [List.take_succ_cons, List.take_zero, List.drop_succ_cons, List.drop_zero]
  refine sE_val (v := (.slice (some ⟨w.heap.size, 0, none⟩) 4096 4096)) (x_move (v := (.slice (some ⟨w.heap.size, 0, none⟩) 4096 4096)) rfl) rfl (by decide) rfl ?_
  refine sE_val (v := (.pointer (some ⟨sc, 0, none⟩))) (x_move (v := (.pointer (some ⟨sc, 0, none⟩))) rfl) rfl (by decide) rfl ?_
  refine sE_val (v := (.pointer (some ⟨sc, 0, none⟩))) (x_nil rfl) rfl (by decide) rfl ?_
  refine sE_val (v := (.pointer (some ⟨sc, 4, none⟩))) (x_fld (i := 4) (by decide) rfl) rfl (by decide) rfl ?_
  refine sE_val (v := (.slice none 0 0)) (x_loadB (Tryf.isAgg65 _) rfl hB4 rfl) rfl (by decide) rfl ?_
  refine sE_val (v := (.pointer (some ⟨sc, 0, none⟩))) (x_move (v := (.pointer (some ⟨sc, 0, none⟩))) rfl) rfl (by decide) rfl ?_
  refine sE_val (v := (.pointer (some ⟨sc, 0, none⟩))) (x_nil rfl) rfl (by decide) rfl ?_
  refine sE_val (v := (.pointer (some ⟨sc, 5, none⟩))) (x_fld (i := 5) (by decide) rfl) rfl (by decide) rfl ?_
  refine sE_val (v := (.int .i64 (0 : Nat))) (x_loadB (Tryf.isAgg3 _) rfl hB4 rfl) rfl (by decide) rfl ?_
  refine sE_val (v := (.pointer (some ⟨sc, 0, none⟩))) (x_move (v := (.pointer (some ⟨sc, 0, none⟩))) rfl) rfl (by decide) rfl ?_
  refine sE_val (v := (.pointer (some ⟨sc, 0, none⟩))) (x_nil rfl) rfl (by decide) rfl ?_
  refine sE_val (v := (.pointer (some ⟨sc, 6, none⟩))) (x_fld (i := 6) (by decide) rfl) rfl (by decide) rfl ?_
  refine sE_val (v := (.int .i64 (0 : Nat))) (x_loadB (Tryf.isAgg3 _) rfl hB4 rfl) rfl (by decide) rfl ?_
  refine sE_val (v := (.slice none 0 0)) (x_slicenil rfl rfl rfl) rfl (by decide) rfl ?_
  refine sE_nil ?_
  refine lE_val (v := (.int .i64 0)) (x_copyN rfl rfl) rfl (by decide) rfl ?_
  refine lE_nil ?_
  refine cE_list ?_
  refine lE_val (v := (.pointer (some ⟨sc, 0, none⟩))) (x_move (v := (.pointer (some ⟨sc, 0, none⟩))) rfl) rfl (by decide) rfl ?_
  refine lE_val (v := (.slice (some ⟨w.heap.size, 0, none⟩) 4096 4096)) (x_move (v := (.slice (some ⟨w.heap.size, 0, none⟩) 4096 4096)) rfl) rfl (by decide) rfl ?_
  refine lE_val (v := (.pointer (some ⟨sc, 0, none⟩))) (x_nil rfl) rfl (by decide) rfl ?_
  refine lE_val (v := (.pointer (some ⟨sc, 4, none⟩))) (x_fld (i := 4) (by decide) rfl) rfl (by decide) rfl ?_
  refine lE_skip (x_storeB (v := (.slice (some ⟨w.heap.size, 0, none⟩) 4096 4096)) (Tryf.sizeOf65 _) rfl rfl rfl hB4 rfl) rfl rfl ?_
  refine lE_nil ?_
  have hB5 : Blk ((w.drew.drew.alloc (.cells ((List.replicate 4096 0).map byteV).toArray 5)).drew.setCell ⟨sc, 4, none⟩ (.slice (some ⟨w.heap.size, 0, none⟩) 4096 4096)) sc (scC rd tok (.slice (some ⟨w.heap.size, 0, none⟩) 4096 4096) 0 0 err cl) 67 := hB4.setCell 4 _
  have hN4 : Blk ((w.drew.drew.alloc (.cells ((List.replicate 4096 0).map byteV).toArray 5)).drew.setCell ⟨sc, 4, none⟩ (.slice (some ⟨w.heap.size, 0, none⟩) 4096 4096)) w.heap.size ((List.replicate 4096 0).map byteV).toArray 5 := hN2.setCell_ne (Ne.symm hne) 4 _
  have hB6 : Blk ((w.drew.drew.alloc (.cells ((List.replicate 4096 0).map byteV).toArray 5)).drew.setCell ⟨sc, 4, none⟩ (.slice (some ⟨w.heap.size, 0, none⟩) 4096 4096)).drew sc (scC rd tok (.slice (some ⟨w.heap.size, 0, none⟩) 4096 4096) 0 0 err cl) 67 := hB5
  have hN5 : Blk ((w.drew.drew.alloc (.cells ((List.replicate 4096 0).map byteV).toArray 5)).drew.setCell ⟨sc, 4, none⟩ (.slice (some ⟨w.heap.size, 0, none⟩) 4096 4096)).drew w.heap.size ((List.replicate 4096 0).map byteV).toArray 5 := hN4
  refine cE_tail 11 (by kernel_rfl) (by kernel_rfl) ?_
  simp only [List.take_succ_cons, List.take_zero, List.drop_succ_cons, List.drop_zero]
  refine sE_val (v := (.pointer (some ⟨sc, 0, none⟩))) (x_move (v := (.pointer (some ⟨sc, 0, none⟩))) rfl) rfl (by decide) rfl ?_
  refine sE_val (v := (.pointer (some ⟨sc, 0, none⟩))) (x_nil rfl) rfl (by decide) rfl ?_
  refine sE_val (v := (.pointer (some ⟨sc, 6, none⟩))) (x_fld (i := 6) (by decide) rfl) rfl (by decide) rfl ?_
  refine sE_val (v := (.int .i64 (0 : Nat))) (x_loadB (Tryf.isAgg3 _) rfl hB6 rfl) rfl (by decide) rfl ?_
  refine sE_val (v := (.pointer (some ⟨sc, 0, none⟩))) (x_move (v := (.pointer (some ⟨sc, 0, none⟩))) rfl) rfl (by decide) rfl ?_
  refine sE_val (v := (.pointer (some ⟨sc, 0, none⟩))) (x_nil rfl) rfl (by decide) rfl ?_
  refine sE_val (v := (.pointer (some ⟨sc, 5, none⟩))) (x_fld (i := 5) (by decide) rfl) rfl (by decide) rfl ?_
  refine sE_val (v := (.int .i64 (0 : Nat))) (x_loadB (Tryf.isAgg3 _) rfl hB6 rfl) rfl (by decide) rfl ?_
  refine sE_val (v := (.int .i64 (0 : Nat))) (x_sub (r := ((0 : Nat) : Int)) rfl rfl (by omega) (by omega) (by omega)) rfl (by decide) rfl ?_
  refine sE_val (v := (.pointer (some ⟨sc, 0, none⟩))) (x_nil rfl) rfl (by decide) rfl ?_
  refine sE_val (v := (.pointer (some ⟨sc, 6, none⟩))) (x_fld (i := 6) (by decide) rfl) rfl (by decide) rfl ?_
  refine sE_nil ?_
  refine lE_skip (x_storeB (v := (.int .i64 (0 : Nat))) (Tryf.sizeOf3 _) rfl rfl rfl hB6 rfl) rfl rfl ?_
  refine lE_nil ?_
  have hB7 : Blk (((w.drew.drew.alloc (.cells ((List.replicate 4096 0).map byteV).toArray 5)).drew.setCell ⟨sc, 4, none⟩ (.slice (some ⟨w.heap.size, 0, none⟩) 4096 4096)).drew.setCell ⟨sc, 6, none⟩ (.int .i64 (0 : Nat))) sc (scC rd tok (.slice (some ⟨w.heap.size, 0, none⟩) 4096 4096) 0 0 err cl) 67 := hB6.setCell 6 _
  have hN6 : Blk (((w.drew.drew.alloc (.cells ((List.replicate 4096 0).map byteV).toArray 5)).drew.setCell ⟨sc, 4, none⟩ (.slice (some ⟨w.heap.size, 0, none⟩) 4096 4096)).drew.setCell ⟨sc, 6, none⟩ (.int .i64 (0 : Nat))) w.heap.size ((List.replicate 4096 0).map byteV).toArray 5 := hN5.setCell_ne (Ne.symm hne) 6 _
  refine cE_list_last ?_
  refine lE_val (v := (.pointer (some ⟨sc, 0, none⟩))) (x_move (v := (.pointer (some ⟨sc, 0, none⟩))) rfl) rfl (by decide) rfl ?_
  refine lE_val (v := (.pointer (some ⟨sc, 0, none⟩))) (x_nil rfl) rfl (by decide) rfl ?_
  refine lE_val (v := (.pointer (some ⟨sc, 5, none⟩))) (x_fld (i := 5) (by decide) rfl) rfl (by decide) rfl ?_
  refine lE_skip (x_storeB (v := (.int .i64 0)) (Tryf.sizeOf3 _) rfl rfl rfl hB7 rfl) rfl rfl ?_
  refine lE_nil ?_
  have hB8 : Blk ((((w.drew.drew.alloc (.cells ((List.replicate 4096 0).map byteV).toArray 5)).drew.setCell ⟨sc, 4, none⟩ (.slice (some ⟨w.heap.size, 0, none⟩) 4096 4096)).drew.setCell ⟨sc, 6, none⟩ (.int .i64 (0 : Nat))).setCell ⟨sc, 5, none⟩ (.int .i64 0)) sc (scC rd tok (.slice (some ⟨w.heap.size, 0, none⟩) 4096 4096) 0 0 err cl) 67 := hB7.setCell 5 _
  have hN7 : Blk ((((w.drew.drew.alloc (.cells ((List.replicate 4096 0).map byteV).toArray 5)).drew.setCell ⟨sc, 4, none⟩ (.slice (some ⟨w.heap.size, 0, none⟩) 4096 4096)).drew.setCell ⟨sc, 6, none⟩ (.int .i64 (0 : Nat))).setCell ⟨sc, 5, none⟩ (.int .i64 0)) w.heap.size ((List.replicate 4096 0).map byteV).toArray 5 := hN6.setCell_ne (Ne.symm hne) 5 _
  refine hQ _ _ rfl hB8 hN7 ?_
  exact ((((Keep.refl (fun k => k = sc) w).drew.drew.alloc _).drew.setCell rfl _).drew.setCell rfl _).setCell rfl _

theorem seg4_grow {c : Code} (h : findCond 195 (Tryf.f26.body.getD .skip) = some c) {Q : Exit → Env → World → Prop} {E : Env} {w : World} {sc : Nat} {rd tok err : Value} {cl : Bool} (hE : E 0 = .pointer (some ⟨sc, 0, none⟩)) {bf L : Nat} {bs : List UInt8} (hB : Blk w sc (scC rd tok (.slice (some ⟨bf, 0, none⟩) L L) 0 L err cl) 67) (hF0 : Blk w bf (bs.map byteV).toArray 5) (hbs : bs.length = L) (hpos : 0 < L) (hL : L ≤ 65536)
    (hQ : ∀ E' w', E' 0 = .pointer (some ⟨sc, 0, none⟩) → Blk w' sc (scC rd tok (.slice (some ⟨w.heap.size, 0, none⟩) (L * 2) (L * 2)) 0 L err cl) 67 → Blk w' w.heap.size (((List.replicate (L * 2) 0).take 0 ++ bs.take L ++ (List.replicate (L * 2) 0).drop (0 + (bs.take L).length)).map byteV).toArray 5 → Keep (fun k => k = sc) w w' → Q .normal E' w') : cE Tryf.prog 334 c Q E w := by
  cases h
  rw [upd_self hE]
  have hne : sc ≠ w.heap.size := Nat.ne_of_lt hB.lt
  have h1 : (((L : Nat) : Int) == ((L : Nat) : Int)) = true := by rw [beq_iff_eq]
  have h2 : decide ((1048576 : Int) ≤ ((L : Nat) : Int)) = false := by simp; omega
  have h3 : decide ((4611686018427387903 : Int) < ((L : Nat) : Int)) = false := by simp; omega
  have h4 : (((L * 2 : Nat) : Int) == 0) = false := by rw [beq_eq_false_iff_ne]; omega
  have hyl : (bs.take L).length = L := by rw [List.length_take]; omega
  have hys : (bs.take L).length = Nat.min (L - 0) (L * 2) := by rw [hyl]; exact (Nat.min_eq_left (by omega)).symm
  have hfit : 0 + (bs.take L).length ≤ (List.replicate (L * 2) (0 : UInt8)).length := by rw [hyl, List.length_replicate]; omega
  have hB1 : Blk w.drew sc (scC rd tok (.slice (some ⟨bf, 0, none⟩) L L) 0 L err cl) 67 := hB
  refine cE_still (by kernel_rfl) (by kernel_rfl) ?_
  refine sE_val (v := (.pointer (some ⟨sc, 0, none⟩))) (x_move (v := (.pointer (some ⟨sc, 0, none⟩))) rfl) rfl (by decide) rfl ?_
  refine sE_val (v := (.pointer (some ⟨sc, 0, none⟩))) (x_nil rfl) rfl (by decide) rfl ?_
  refine sE_val (v := (.pointer (some ⟨sc, 6, none⟩))) (x_fld (i := 6) (by decide) rfl) rfl (by decide) rfl ?_
  refine sE_val (v := (.int .i64 (L : Nat))) (x_loadB (Tryf.isAgg3 _) rfl hB1 rfl) rfl (by decide) rfl ?_
  refine sE_val (v := (.pointer (some ⟨sc, 0, none⟩))) (x_move (v := (.pointer (some ⟨sc, 0, none⟩))) rfl) rfl (by decide) rfl ?_
  refine sE_val (v := (.pointer (some ⟨sc, 0, none⟩))) (x_nil rfl) rfl (by decide) rfl ?_
  refine sE_val (v := (.pointer (some ⟨sc, 4, none⟩))) (x_fld (i := 4) (by decide) rfl) rfl (by decide) rfl ?_
  refine sE_val (v := (.slice (some ⟨bf, 0, none⟩) L L)) (x_loadB (Tryf.isAgg65 _) rfl hB1 rfl) rfl (by decide) rfl ?_
  refine sE_val (v := (.int .i64 (L : Nat))) (x_len rfl) rfl (by decide) rfl ?_
  refine sE_val (v := (.bool true)) (by rw [← h1]; exact x_eql rfl rfl) rfl (by decide) rfl ?_
  refine sE_nil ?_
  refine cE_condT rfl ?_
  refine cE_seq ?_
  have hB2 : Blk w.drew.drew sc (scC rd tok (.slice (some ⟨bf, 0, none⟩) L L) 0 L err cl) 67 := hB1
  refine cE_still (by kernel_rfl) (by kernel_rfl) ?_
  refine sE_val (v := (.pointer (some ⟨sc, 0, none⟩))) (x_move (v := (.pointer (some ⟨sc, 0, none⟩))) rfl) rfl (by decide) rfl ?_
  refine sE_val (v := (.pointer (some ⟨sc, 0, none⟩))) (x_nil rfl) rfl (by decide) rfl ?_
  refine sE_val (v := (.pointer (some ⟨sc, 4, none⟩))) (x_fld (i := 4) (by decide) rfl) rfl (by decide) rfl ?_
  refine sE_val (v := (.slice (some ⟨bf, 0, none⟩) L L)) (x_loadB (Tryf.isAgg65 _) rfl hB2 rfl) rfl (by decide) rfl ?_
  refine sE_val (v := (.int .i64 (L : Nat))) (x_len rfl) rfl (by decide) rfl ?_
  refine sE_val (v := (.pointer (some ⟨sc, 0, none⟩))) (x_move (v := (.pointer (some ⟨sc, 0, none⟩))) rfl) rfl (by decide) rfl ?_
  refine sE_val (v := (.pointer (some ⟨sc, 0, none⟩))) (x_nil rfl) rfl (by decide) rfl ?_
  refine sE_val (v := (.pointer (some ⟨sc, 2, none⟩))) (x_fld (i := 2) (by decide) rfl) rfl (by decide) rfl ?_
  refine sE_val (v := (.int .i64 1048576)) (x_loadB (Tryf.isAgg3 _) rfl hB2 rfl) rfl (by decide) rfl ?_
  refine sE_val (v := (.bool false)) (by rw [← h2]; exact x_geq rfl rfl) rfl (by decide) rfl ?_
  refine sE_val (v := (.bool false)) (x_move (v := (.bool false)) rfl) rfl (by decide) rfl ?_
  refine sE_gval (v := (.pointer (some ⟨sc, 0, none⟩))) (x_move (v := (.pointer (some ⟨sc, 0, none⟩))) rfl) rfl (by decide) rfl rfl (by decide) rfl ?_
  refine sE_gval (v := (.pointer (some ⟨sc, 0, none⟩))) (x_nil rfl) rfl (by decide) rfl rfl (by decide) rfl ?_
  refine sE_gval (v := (.pointer (some ⟨sc, 4, none⟩))) (x_fld (i := 4) (by decide) rfl) rfl (by decide) rfl rfl (by decide) rfl ?_
  refine sE_gval (v := (.slice (some ⟨bf, 0, none⟩) L L)) (x_loadB (Tryf.isAgg65 _) rfl hB2 rfl) rfl (by decide) rfl rfl (by decide) rfl ?_
  refine sE_gval (v := (.int .i64 (L : Nat))) (x_len rfl) rfl (by decide) rfl rfl (by decide) rfl ?_
  refine sE_gval (v := (.bool false)) (by rw [← h3]; exact x_gtr rfl rfl) rfl (by decide) rfl rfl (by decide) rfl ?_
  refine sE_val (v := (.bool false)) (x_pickF (v := (.bool false)) rfl rfl) rfl (by decide) rfl ?_
  refine sE_nil ?_
  refine cE_condF rfl (cE_skipT ?_)
  refine cE_list ?_
  refine lE_val (v := (.pointer (some ⟨sc, 0, none⟩))) (x_move (v := (.pointer (some ⟨sc, 0, none⟩))) rfl) rfl (by decide) rfl ?_
  refine lE_val (v := (.pointer (some ⟨sc, 0, none⟩))) (x_nil rfl) rfl (by decide) rfl ?_
  refine lE_val (v := (.pointer (some ⟨sc, 4, none⟩))) (x_fld (i := 4) (by decide) rfl) rfl (by decide) rfl ?_
  refine lE_val (v := (.slice (some ⟨bf, 0, none⟩) L L)) (x_loadB (Tryf.isAgg65 _) rfl hB2 rfl) rfl (by decide) rfl ?_
  refine lE_val (v := (.int .i64 (L : Nat))) (x_len rfl) rfl (by decide) rfl ?_
  refine lE_val (v := (.int .i64 (L * 2 : Nat))) (x_mul (r := ((L * 2 : Nat) : Int)) rfl rfl (by omega) (by omega) (by omega)) rfl (by decide) rfl ?_
  refine lE_val (v := (.int .i64 (L * 2 : Nat))) (x_assign (v := (.int .i64 (L * 2 : Nat))) rfl) rfl (by decide) rfl ?_
  refine lE_nil ?_
  refine cE_seq ?_
  refine cE_list ?_
  refine lE_val (v := (.int .i64 (L * 2 : Nat))) (x_move (v := (.int .i64 (L * 2 : Nat))) rfl) rfl (by decide) rfl ?_
  refine lE_val (v := (.bool false)) (by rw [← h4]; exact x_eql rfl rfl) rfl (by decide) rfl ?_
  refine lE_nil ?_
  refine cE_condF rfl (cE_skipT ?_)
  refine cE_list ?_
  refine lE_val (v := (.int .i64 (L * 2 : Nat))) (x_move (v := (.int .i64 (L * 2 : Nat))) rfl) rfl (by decide) rfl ?_
  refine lE_val (v := (.pointer (some ⟨sc, 0, none⟩))) (x_move (v := (.pointer (some ⟨sc, 0, none⟩))) rfl) rfl (by decide) rfl ?_
  refine lE_val (v := (.pointer (some ⟨sc, 0, none⟩))) (x_nil rfl) rfl (by decide) rfl ?_
  refine lE_val (v := (.pointer (some ⟨sc, 2, none⟩))) (x_fld (i := 2) (by decide) rfl) rfl (by decide) rfl ?_
  refine lE_val (v := (.int .i64 1048576)) (x_loadB (Tryf.isAgg3 _) rfl hB2 rfl) rfl (by decide) rfl ?_
  refine lE_val (v := (.int .i64 (L * 2 : Nat))) (x_min rfl rfl (by omega)) rfl (by decide) rfl ?_
  refine lE_val (v := (.int .i64 (L * 2 : Nat))) (x_assign (v := (.int .i64 (L * 2 : Nat))) rfl) rfl (by decide) rfl ?_
  refine lE_nil ?_
  refine cE_list ?_
  refine lE_val (v := (.int .i64 (L * 2 : Nat))) (x_move (v := (.int .i64 (L * 2 : Nat))) rfl) rfl (by decide) rfl ?_
  refine lE_val (v := (.slice (some ⟨w.heap.size, 0, none⟩) (L * 2) (L * 2))) (x_make (n := (L * 2)) rfl rfl (by omega)) rfl (by decide) rfl ?_
  refine lE_val (v := (.slice (some ⟨w.heap.size, 0, none⟩) (L * 2) (L * 2))) (x_assign (v := (.slice (some ⟨w.heap.size, 0, none⟩) (L * 2) (L * 2))) rfl) rfl (by decide) rfl ?_
  refine lE_nil ?_
  have hB3 : Blk (w.drew.drew.alloc (.cells ((List.replicate (L * 2) 0).map byteV).toArray 5)) sc (scC rd tok (.slice (some ⟨bf, 0, none⟩) L L) 0 L err cl) 67 := hB2.alloc _
  have hN1 : Blk (w.drew.drew.alloc (.cells ((List.replicate (L * 2) 0).map byteV).toArray 5)) w.heap.size ((List.replicate (L * 2) 0).map byteV).toArray 5 := Blk.alloc_new w.drew.drew _ _
  have hB4 : Blk (w.drew.drew.alloc (.cells ((List.replicate (L * 2) 0).map byteV).toArray 5)).drew sc (scC rd tok (.slice (some ⟨bf, 0, none⟩) L L) 0 L err cl) 67 := hB3
  have hN2 : Blk (w.drew.drew.alloc (.cells ((List.replicate (L * 2) 0).map byteV).toArray 5)).drew w.heap.size ((List.replicate (L * 2) 0).map byteV).toArray 5 := hN1
  have hY : Bytes (w.drew.drew.alloc (.cells ((List.replicate (L * 2) 0).map byteV).toArray 5)).drew bf 0 (bs.take L) := Bytes.of_block (off := 0) (Blk.alloc (w := w.drew.drew) hF0 _) L
  refine cE_tail 14 (by kernel_rfl) (by kernel_rfl) ?_
  simp only [List.take_succ_cons, List.take_zero, List.drop_succ_cons, List.drop_zero]
  refine sE_val (v := (.slice (some ⟨w.heap.size, 0, none⟩) (L * 2) (L * 2))) (x_move (v := (.slice (some ⟨w.heap.size, 0, none⟩) (L * 2) (L * 2))) rfl) rfl (by decide) rfl ?_
  refine sE_val (v := (.pointer (some ⟨sc, 0, none⟩))) (x_move (v := (.pointer (some ⟨sc, 0, none⟩))) rfl) rfl (by decide) rfl ?_
  refine sE_val (v := (.pointer (some ⟨sc, 0, none⟩))) (x_nil rfl) rfl (by decide) rfl ?_
  refine sE_val (v := (.pointer (some ⟨sc, 4, none⟩))) (x_fld (i := 4) (by decide) rfl) rfl (by decide) rfl ?_
  refine sE_val (v := (.slice (some ⟨bf, 0, none⟩) L L)) (x_loadB (Tryf.isAgg65 _) rfl hB4 rfl) rfl (by decide) rfl ?_
  refine sE_val (v := (.pointer (some ⟨sc, 0, none⟩))) (x_move (v := (.pointer (some ⟨sc, 0, none⟩))) rfl) rfl (by decide) rfl ?_
  refine sE_val (v := (.pointer (some ⟨sc, 0, none⟩))) (x_nil rfl) rfl (by decide) rfl ?_
  refine sE_val (v := (.pointer (some ⟨sc, 5, none⟩))) (x_fld (i := 5) (by decide) rfl) rfl (by decide) rfl ?_
  refine sE_val (v := (.int .i64 (0 : Nat))) (x_loadB (Tryf.isAgg3 _) rfl hB4 rfl) rfl (by decide) rfl ?_
  refine sE_val (v := (.pointer (some ⟨sc, 0, none⟩))) (x_move (v := (.pointer (some ⟨sc, 0, none⟩))) rfl) rfl (by decide) rfl ?_
  refine sE_val (v := (.pointer (some ⟨sc, 0, none⟩))) (x_nil rfl) rfl (by decide) rfl ?_
  refine sE_val (v := (.pointer (some ⟨sc, 6, none⟩))) (x_fld (i := 6) (by decide) rfl) rfl (by decide) rfl ?_
  refine sE_val (v := (.int .i64 (L : Nat))) (x_loadB (Tryf.isAgg3 _) rfl hB4 rfl) rfl (by decide) rfl ?_
  refine sE_val (v := (.slice (some ⟨bf, 0, none⟩) (L - 0) (L - 0))) (x_slice00 rfl rfl rfl (by omega) (by omega) (by omega)) rfl (by decide) rfl ?_
  refine sE_nil ?_
  refine lE_val (v := (.int .i64 ((bs.take L).length : Nat))) (x_copyB (off := 0) (ys := bs.take L) rfl rfl hN2 hY hys hfit) rfl (by decide) rfl ?_
  refine lE_nil ?_
  have hB5 : Blk ((w.drew.drew.alloc (.cells ((List.replicate (L * 2) 0).map byteV).toArray 5)).drew.setRow w.heap.size (((List.replicate (L * 2) 0).take 0 ++ bs.take L ++ (List.replicate (L * 2) 0).drop (0 + (bs.take L).length)).map byteV).toArray) sc (scC rd tok (.slice (some ⟨bf, 0, none⟩) L L) 0 L err cl) 67 := hB4.setRow_ne hne
  have hN3 : Blk ((w.drew.drew.alloc (.cells ((List.replicate (L * 2) 0).map byteV).toArray 5)).drew.setRow w.heap.size (((List.replicate (L * 2) 0).take 0 ++ bs.take L ++ (List.replicate (L * 2) 0).drop (0 + (bs.take L).length)).map byteV).toArray) w.heap.size (((List.replicate (L * 2) 0).take 0 ++ bs.take L ++ (List.replicate (L * 2) 0).drop (0 + (bs.take L).length)).map byteV).toArray 5 := hN2.setRow
  refine cE_list ?_
  refine lE_val (v := (.pointer (some ⟨sc, 0, none⟩))) (x_move (v := (.pointer (some ⟨sc, 0, none⟩))) rfl) rfl (by decide) rfl ?_
  refine lE_val (v := (.slice (some ⟨w.heap.size, 0, none⟩) (L * 2) (L * 2))) (x_move (v := (.slice (some ⟨w.heap.size, 0, none⟩) (L * 2) (L * 2))) rfl) rfl (by decide) rfl ?_
  refine lE_val (v := (.pointer (some ⟨sc, 0, none⟩))) (x_nil rfl) rfl (by decide) rfl ?_
  refine lE_val (v := (.pointer (some ⟨sc, 4, none⟩))) (x_fld (i := 4) (by decide) rfl) rfl (by decide) rfl ?_
  refine lE_skip (x_storeB (v := (.slice (some ⟨w.heap.size, 0, none⟩) (L * 2) (L * 2))) (Tryf.sizeOf65 _) rfl rfl rfl hB5 rfl) rfl rfl ?_
  refine lE_nil ?_
  have hB6 : Blk (((w.drew.drew.alloc (.cells ((List.replicate (L * 2) 0).map byteV).toArray 5)).drew.setRow w.heap.size (((List.replicate (L * 2) 0).take 0 ++ bs.take L ++ (List.replicate (L * 2) 0).drop (0 + (bs.take L).length)).map byteV).toArray).setCell ⟨sc, 4, none⟩ (.slice (some ⟨w.heap.size, 0, none⟩) (L * 2) (L * 2))) sc (scC rd tok (.slice (some ⟨w.heap.size, 0, none⟩) (L * 2) (L * 2)) 0 L err cl) 67 := hB5.setCell 4 _
  have hN4 : Blk (((w.drew.drew.alloc (.cells ((List.replicate (L * 2) 0).map byteV).toArray 5)).drew.setRow w.heap.size (((List.replicate (L * 2) 0).take 0 ++ bs.take L ++ (List.replicate (L * 2) 0).drop (0 + (bs.take L).length)).map byteV).toArray).setCell ⟨sc, 4, none⟩ (.slice (some ⟨w.heap.size, 0, none⟩) (L * 2) (L * 2))) w.heap.size (((List.replicate (L * 2) 0).take 0 ++ bs.take L ++ (List.replicate (L * 2) 0).drop (0 + (bs.take L).length)).map byteV).toArray 5 := hN3.setCell_ne (Ne.symm hne) 4 _
  have hB7 : Blk (((w.drew.drew.alloc (.cells ((List.replicate (L * 2) 0).map byteV).toArray 5)).drew.setRow w.heap.size (((List.replicate (L * 2) 0).take 0 ++ bs.take L ++ (List.replicate (L * 2) 0).drop (0 + (bs.take L).length)).map byteV).toArray).setCell ⟨sc, 4, none⟩ (.slice (some ⟨w.heap.size, 0, none⟩) (L * 2) (L * 2))).drew sc (scC rd tok (.slice (some ⟨w.heap.size, 0, none⟩) (L * 2) (L * 2)) 0 L err cl) 67 := hB6
  have hN5 : Blk (((w.drew.drew.alloc (.cells ((List.replicate (L * 2) 0).map byteV).toArray 5)).drew.setRow w.heap.size (((List.replicate (L * 2) 0).take 0 ++ bs.take L ++ (List.replicate (L * 2) 0).drop (0 + (bs.take L).length)).map byteV).toArray).setCell ⟨sc, 4, none⟩ (.slice (some ⟨w.heap.size, 0, none⟩) (L * 2) (L * 2))).drew w.heap.size (((List.replicate (L * 2) 0).take 0 ++ bs.take L ++ (List.replicate (L * 2) 0).drop (0 + (bs.take L).length)).map byteV).toArray 5 := hN4
  refine cE_tail 11 (by kernel_rfl) (by kernel_rfl) ?_
  simp only [List.take_succ_cons, List.take_zero, List.drop_succ_cons, List.drop_zero]
  refine sE_val (v := (.pointer (some ⟨sc, 0, none⟩))) (x_move (v := (.pointer (some ⟨sc, 0, none⟩))) rfl) rfl (by decide) rfl ?_
  refine sE_val (v := (.pointer (some ⟨sc, 0, none⟩))) (x_nil rfl) rfl (by decide) rfl ?_
  refine sE_val (v := (.pointer (some ⟨sc, 6, none⟩))) (x_fld (i := 6) (by decide) rfl) rfl (by decide) rfl ?_
  refine sE_val (v := (.int .i64 (L : Nat))) (x_loadB (Tryf.isAgg3 _) rfl hB7 rfl) rfl (by decide) rfl ?_
  refine sE_val (v := (.pointer (some ⟨sc, 0, none⟩))) (x_move (v := (.pointer (some ⟨sc, 0, none⟩))) rfl) rfl (by decide) rfl ?_
  refine sE_val (v := (.pointer (some ⟨sc, 0, none⟩))) (x_nil rfl) rfl (by decide) rfl ?_
  refine sE_val (v := (.pointer (some ⟨sc, 5, none⟩))) (x_fld (i := 5) (by decide) rfl) rfl (by decide) rfl ?_
  refine sE_val (v := (.int .i64 (0 : Nat))) (x_loadB (Tryf.isAgg3 _) rfl hB7 rfl) rfl (by decide) rfl ?_
  refine sE_val (v := (.int .i64 (L : Nat))) (x_sub (r := ((L : Nat) : Int)) rfl rfl (by omega) (by omega) (by omega)) rfl (by decide) rfl ?_
  refine sE_val (v := (.pointer (some ⟨sc, 0, none⟩))) (x_nil rfl) rfl (by decide) rfl ?_
  refine sE_val (v := (.pointer (some ⟨sc, 6, none⟩))) (x_fld (i := 6) (by decide) rfl) rfl (by decide) rfl ?_
  refine sE_nil ?_
  refine lE_skip (x_storeB (v := (.int .i64 (L : Nat))) (Tryf.sizeOf3 _) rfl rfl rfl hB7 rfl) rfl rfl ?_
  refine lE_nil ?_
  have hB8 : Blk ((((w.drew.drew.alloc (.cells ((List.replicate (L * 2) 0).map byteV).toArray 5)).drew.setRow w.heap.size (((List.replicate (L * 2) 0).take 0 ++ bs.take L ++ (List.replicate (L * 2) 0).drop (0 + (bs.take L).length)).map byteV).toArray).setCell ⟨sc, 4, none⟩ (.slice (some ⟨w.heap.size, 0, none⟩) (L * 2) (L * 2))).drew.setCell ⟨sc, 6, none⟩ (.int .i64 (L : Nat))) sc (scC rd tok (.slice (some ⟨w.heap.size, 0, none⟩) (L * 2) (L * 2)) 0 L err cl) 67 := hB7.setCell 6 _
  have hN6 : Blk ((((w.drew.drew.alloc (.cells ((List.replicate (L * 2) 0).map byteV).toArray 5)).drew.setRow w.heap.size (((List.replicate (L * 2) 0).take 0 ++ bs.take L ++ (List.replicate (L * 2) 0).drop (0 + (bs.take L).length)).map byteV).toArray).setCell ⟨sc, 4, none⟩ (.slice (some ⟨w.heap.size, 0, none⟩) (L * 2) (L * 2))).drew.setCell ⟨sc, 6, none⟩ (.int .i64 (L : Nat))) w.heap.size (((List.replicate (L * 2) 0).take 0 ++ bs.take L ++ (List.replicate (L * 2) 0).drop (0 + (bs.take L).length)).map byteV).toArray 5 := hN5.setCell_ne (Ne.symm hne) 6 _
  refine cE_list_last ?_
  refine lE_val (v := (.pointer (some ⟨sc, 0, none⟩))) (x_move (v := (.pointer (some ⟨sc, 0, none⟩))) rfl) rfl (by decide) rfl ?_
  refine lE_val (v := (.pointer (some ⟨sc, 0, none⟩))) (x_nil rfl) rfl (by decide) rfl ?_
  refine lE_val (v := (.pointer (some ⟨sc, 5, none⟩))) (x_fld (i := 5) (by decide) rfl) rfl (by decide) rfl ?_
  refine lE_skip (x_storeB (v := (.int .i64 0)) (Tryf.sizeOf3 _) rfl rfl rfl hB8 rfl) rfl rfl ?_
  refine lE_nil ?_
  have hB9 : Blk (((((w.drew.drew.alloc (.cells ((List.replicate (L * 2) 0).map byteV).toArray 5)).drew.setRow w.heap.size (((List.replicate (L * 2) 0).take 0 ++ bs.take L ++ (List.replicate (L * 2) 0).drop (0 + (bs.take L).length)).map byteV).toArray).setCell ⟨sc, 4, none⟩ (.slice (some ⟨w.heap.size, 0, none⟩) (L * 2) (L * 2))).drew.setCell ⟨sc, 6, none⟩ (.int .i64 (L : Nat))).setCell ⟨sc, 5, none⟩ (.int .i64 0)) sc (scC rd tok (.slice (some ⟨w.heap.size, 0, none⟩) (L * 2) (L * 2)) 0 L err cl) 67 := hB8.setCell 5 _
  have hN7 : Blk (((((w.drew.drew.alloc (.cells ((List.replicate (L * 2) 0).map byteV).toArray 5)).drew.setRow w.heap.size (((List.replicate (L * 2) 0).take 0 ++ bs.take L ++ (List.replicate (L * 2) 0).drop (0 + (bs.take L).length)).map byteV).toArray).setCell ⟨sc, 4, none⟩ (.slice (some ⟨w.heap.size, 0, none⟩) (L * 2) (L * 2))).drew.setCell ⟨sc, 6, none⟩ (.int .i64 (L : Nat))).setCell ⟨sc, 5, none⟩ (.int .i64 0)) w.heap.size (((List.replicate (L * 2) 0).take 0 ++ bs.take L ++ (List.replicate (L * 2) 0).drop (0 + (bs.take L).length)).map byteV).toArray 5 := hN6.setCell_ne (Ne.symm hne) 5 _
  refine hQ _ _ rfl hB9 hN7 ?_
  refine Keep.since (S := fun k => k = sc) (Keep.refl _ w) ?_
  exact (((((Keep.refl (fun k => k = sc ∨ w.heap.size ≤ k) w).drew.drew.alloc _).drew.setRow (Or.inr (Nat.le_refl _)) _).setCell (Or.inl rfl) _).drew.setCell (Or.inl rfl) _).setCell (Or.inl rfl) _

end Go.Proofs.Qxb6613145aFmt
