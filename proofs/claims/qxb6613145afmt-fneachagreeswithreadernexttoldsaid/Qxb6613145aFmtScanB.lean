/-
  (*bufio.Scanner).Scan, a piece. (The regions' lines are written by gen/scan.py.)
-/
import Derived.Test.Qxb6613145aFmtScanA
namespace Go.Proofs.Qxb6613145aFmt
open Go.RowKit
set_option maxRecDepth 100000


theorem seg3_no1 {c : Code} (h : findCond 153 (Tryf.f26.body.getD .skip) = some c) {Q : Exit → Env → World → Prop} {E : Env} {w : World} {sc : Nat} {rd tok buf err : Value} {cl : Bool} (hE : E 0 = .pointer (some ⟨sc, 0, none⟩)) {st en : Nat} (hB : Blk w sc (scC rd tok buf st en err cl) 67) (hst : st = 0)
    (hQ : ∀ E' w', E' 0 = .pointer (some ⟨sc, 0, none⟩) → Blk w' sc (scC rd tok buf st en err cl) 67 → Keep (fun k => k = sc) w w' → Q .normal E' w') : cE Tryf.prog 334 c Q E w := by
  cases h
  rw [upd_self hE]
  have h1 : decide ((0 : Int) < ((st : Nat) : Int)) = false := by simp; omega
  have hB1 : Blk w.drew sc (scC rd tok buf st en err cl) 67 := hB
  refine cE_still (by kernel_rfl) (by kernel_rfl) ?_
  refine sE_val (v := (.pointer (some ⟨sc, 0, none⟩))) (x_move (v := (.pointer (some ⟨sc, 0, none⟩))) rfl) rfl (by decide) rfl ?_
  refine sE_val (v := (.pointer (some ⟨sc, 0, none⟩))) (x_nil rfl) rfl (by decide) rfl ?_
  refine sE_val (v := (.pointer (some ⟨sc, 5, none⟩))) (x_fld (i := 5) (by decide) rfl) rfl (by decide) rfl ?_
  refine sE_val (v := (.int .i64 (st : Nat))) (x_loadB (Tryf.isAgg3 _) rfl hB1 rfl) rfl (by decide) rfl ?_
  refine sE_val (v := (.bool false)) (by rw [← h1]; exact x_gtr rfl rfl) rfl (by decide) rfl ?_
  refine sE_val (v := (.bool false)) (x_move (v := (.bool false)) rfl) rfl (by decide) rfl ?_
  refine sE_gskip rfl (by decide) rfl rfl (by decide) (.inl rfl) ?_
  refine sE_gskip rfl (by decide) rfl rfl (by decide) (.inl rfl) ?_
  refine sE_gskip rfl (by decide) rfl rfl (by decide) (.inl rfl) ?_
  refine sE_gskip rfl (by decide) rfl rfl (by decide) (.inl rfl) ?_
  refine sE_gskip rfl (by decide) rfl rfl (by decide) (.inl rfl) ?_
  refine sE_gskip rfl (by decide) rfl rfl (by decide) (.inl rfl) ?_
  refine sE_gskip rfl (by decide) rfl rfl (by decide) (.inl rfl) ?_
  refine sE_gskip rfl (by decide) rfl rfl (by decide) (.inl rfl) ?_
  refine sE_gskip rfl (by decide) rfl rfl (by decide) (.inl rfl) ?_
  refine sE_gskip rfl (by decide) rfl rfl (by decide) (.inl rfl) ?_
  refine sE_gskip rfl (by decide) rfl rfl (by decide) (.inl rfl) ?_
  refine sE_gskip rfl (by decide) rfl rfl (by decide) (.inr rfl) ?_
  refine sE_gskip rfl (by decide) rfl rfl (by decide) (.inr rfl) ?_
  refine sE_gskip rfl (by decide) rfl rfl (by decide) (.inr rfl) ?_
  refine sE_gskip rfl (by decide) rfl rfl (by decide) (.inr rfl) ?_
  refine sE_gskip rfl (by decide) rfl rfl (by decide) (.inr rfl) ?_
  refine sE_gskip rfl (by decide) rfl rfl (by decide) (.inr rfl) ?_
  refine sE_gskip rfl (by decide) rfl rfl (by decide) (.inr rfl) ?_
  refine sE_gskip rfl (by decide) rfl rfl (by decide) (.inr rfl) ?_
  refine sE_gskip rfl (by decide) rfl rfl (by decide) (.inr rfl) ?_
  refine sE_gskip rfl (by decide) rfl rfl (by decide) (.inr rfl) ?_
  refine sE_gskip rfl (by decide) rfl rfl (by decide) (.inr rfl) ?_
  refine sE_gskip rfl (by decide) rfl rfl (by decide) (.inl rfl) ?_
  refine sE_val (v := (.bool false)) (x_pickF (v := (.bool false)) rfl rfl) rfl (by decide) rfl ?_
  refine sE_nil ?_
  refine cE_condF rfl (cE_skipN ?_)
  exact hQ _ _ rfl hB1 (Keep.refl _ w).drew

theorem seg3_no2 {c : Code} (h : findCond 153 (Tryf.f26.body.getD .skip) = some c) {Q : Exit → Env → World → Prop} {E : Env} {w : World} {sc : Nat} {rd tok err : Value} {cl : Bool} (hE : E 0 = .pointer (some ⟨sc, 0, none⟩)) {st en : Nat} {bf L : Nat} (hB : Blk w sc (scC rd tok (.slice (some ⟨bf, 0, none⟩) L L) st en err cl) 67) (hst : 0 < st) (hen : en ≠ L) (hhalf : st ≤ L / 2) (hL : L ≤ 1000000)
    (hQ : ∀ E' w', E' 0 = .pointer (some ⟨sc, 0, none⟩) → Blk w' sc (scC rd tok (.slice (some ⟨bf, 0, none⟩) L L) st en err cl) 67 → Keep (fun k => k = sc) w w' → Q .normal E' w') : cE Tryf.prog 334 c Q E w := by
  cases h
  rw [upd_self hE]
  have h1 : decide ((0 : Int) < ((st : Nat) : Int)) = true := by simp; omega
  have h2 : (((en : Nat) : Int) == ((L : Nat) : Int)) = false := by rw [beq_eq_false_iff_ne]; omega
  have h3 : decide (((L / 2 : Nat) : Int) < ((st : Nat) : Int)) = false := by simp; omega
  have hB1 : Blk w.drew sc (scC rd tok (.slice (some ⟨bf, 0, none⟩) L L) st en err cl) 67 := hB
  refine cE_still (by kernel_rfl) (by kernel_rfl) ?_
  refine sE_val (v := (.pointer (some ⟨sc, 0, none⟩))) (x_move (v := (.pointer (some ⟨sc, 0, none⟩))) rfl) rfl (by decide) rfl ?_
  refine sE_val (v := (.pointer (some ⟨sc, 0, none⟩))) (x_nil rfl) rfl (by decide) rfl ?_
  refine sE_val (v := (.pointer (some ⟨sc, 5, none⟩))) (x_fld (i := 5) (by decide) rfl) rfl (by decide) rfl ?_
  refine sE_val (v := (.int .i64 (st : Nat))) (x_loadB (Tryf.isAgg3 _) rfl hB1 rfl) rfl (by decide) rfl ?_
  refine sE_val (v := (.bool true)) (by rw [← h1]; exact x_gtr rfl rfl) rfl (by decide) rfl ?_
  refine sE_val (v := (.bool true)) (x_move (v := (.bool true)) rfl) rfl (by decide) rfl ?_
  refine sE_gval (v := (.pointer (some ⟨sc, 0, none⟩))) (x_move (v := (.pointer (some ⟨sc, 0, none⟩))) rfl) rfl (by decide) rfl rfl (by decide) rfl ?_
  refine sE_gval (v := (.pointer (some ⟨sc, 0, none⟩))) (x_nil rfl) rfl (by decide) rfl rfl (by decide) rfl ?_
  refine sE_gval (v := (.pointer (some ⟨sc, 6, none⟩))) (x_fld (i := 6) (by decide) rfl) rfl (by decide) rfl rfl (by decide) rfl ?_
  refine sE_gval (v := (.int .i64 (en : Nat))) (x_loadB (Tryf.isAgg3 _) rfl hB1 rfl) rfl (by decide) rfl rfl (by decide) rfl ?_
  refine sE_gval (v := (.pointer (some ⟨sc, 0, none⟩))) (x_move (v := (.pointer (some ⟨sc, 0, none⟩))) rfl) rfl (by decide) rfl rfl (by decide) rfl ?_
  refine sE_gval (v := (.pointer (some ⟨sc, 0, none⟩))) (x_nil rfl) rfl (by decide) rfl rfl (by decide) rfl ?_
  refine sE_gval (v := (.pointer (some ⟨sc, 4, none⟩))) (x_fld (i := 4) (by decide) rfl) rfl (by decide) rfl rfl (by decide) rfl ?_
  refine sE_gval (v := (.slice (some ⟨bf, 0, none⟩) L L)) (x_loadB (Tryf.isAgg65 _) rfl hB1 rfl) rfl (by decide) rfl rfl (by decide) rfl ?_
  refine sE_gval (v := (.int .i64 (L : Nat))) (x_len rfl) rfl (by decide) rfl rfl (by decide) rfl ?_
  refine sE_gval (v := (.bool false)) (by rw [← h2]; exact x_eql rfl rfl) rfl (by decide) rfl rfl (by decide) rfl ?_
  refine sE_gval (v := (.bool false)) (x_move (v := (.bool false)) rfl) rfl (by decide) rfl rfl (by decide) rfl ?_
  refine sE_gval (v := (.pointer (some ⟨sc, 0, none⟩))) (x_move (v := (.pointer (some ⟨sc, 0, none⟩))) rfl) rfl (by decide) rfl rfl (by decide) rfl ?_
  refine sE_gval (v := (.pointer (some ⟨sc, 0, none⟩))) (x_nil rfl) rfl (by decide) rfl rfl (by decide) rfl ?_
  refine sE_gval (v := (.pointer (some ⟨sc, 5, none⟩))) (x_fld (i := 5) (by decide) rfl) rfl (by decide) rfl rfl (by decide) rfl ?_
  refine sE_gval (v := (.int .i64 (st : Nat))) (x_loadB (Tryf.isAgg3 _) rfl hB1 rfl) rfl (by decide) rfl rfl (by decide) rfl ?_
  refine sE_gval (v := (.pointer (some ⟨sc, 0, none⟩))) (x_move (v := (.pointer (some ⟨sc, 0, none⟩))) rfl) rfl (by decide) rfl rfl (by decide) rfl ?_
  refine sE_gval (v := (.pointer (some ⟨sc, 0, none⟩))) (x_nil rfl) rfl (by decide) rfl rfl (by decide) rfl ?_
  refine sE_gval (v := (.pointer (some ⟨sc, 4, none⟩))) (x_fld (i := 4) (by decide) rfl) rfl (by decide) rfl rfl (by decide) rfl ?_
  refine sE_gval (v := (.slice (some ⟨bf, 0, none⟩) L L)) (x_loadB (Tryf.isAgg65 _) rfl hB1 rfl) rfl (by decide) rfl rfl (by decide) rfl ?_
  refine sE_gval (v := (.int .i64 (L : Nat))) (x_len rfl) rfl (by decide) rfl rfl (by decide) rfl ?_
  refine sE_gval (v := (.int .i64 (L / 2 : Nat))) (x_half (r := ((L / 2 : Nat) : Int)) rfl rfl (by omega) (by omega) (by omega)) rfl (by decide) rfl rfl (by decide) rfl ?_
  refine sE_gval (v := (.bool false)) (by rw [← h3]; exact x_gtr rfl rfl) rfl (by decide) rfl rfl (by decide) rfl ?_
  refine sE_gval (v := (.bool false)) (x_pickF (v := (.bool false)) rfl rfl) rfl (by decide) rfl rfl (by decide) rfl ?_
  refine sE_val (v := (.bool false)) (x_pickT (v := (.bool false)) rfl rfl) rfl (by decide) rfl ?_
  refine sE_nil ?_
  refine cE_condF rfl (cE_skipN ?_)
  exact hQ _ _ rfl hB1 (Keep.refl _ w).drew

theorem seg3_sh1 {c : Code} (h : findCond 153 (Tryf.f26.body.getD .skip) = some c) {Q : Exit → Env → World → Prop} {E : Env} {w : World} {sc : Nat} {rd tok err : Value} {cl : Bool} (hE : E 0 = .pointer (some ⟨sc, 0, none⟩)) {bf L st en : Nat} {bs ys : List UInt8} (hB : Blk w sc (scC rd tok (.slice (some ⟨bf, 0, none⟩) L L) st en err cl) 67) (hF0 : Blk w bf (bs.map byteV).toArray 5) (hne : sc ≠ bf) (hbs : bs.length = L)
    (hst : 0 < st) (hse : st ≤ en) (hen : en ≤ L) (hL : L ≤ 1000000) (hys0 : ys = (bs.drop st).take (en - st)) (hfull : en = L)
    (hQ : ∀ E' w', E' 0 = .pointer (some ⟨sc, 0, none⟩) → Blk w' sc (scC rd tok (.slice (some ⟨bf, 0, none⟩) L L) 0 (en - st) err cl) 67 → Blk w' bf ((bs.take 0 ++ ys ++ bs.drop (0 + ys.length)).map byteV).toArray 5 → Keep (fun k => k = sc ∨ k = bf) w w' → Q .normal E' w') : cE Tryf.prog 334 c Q E w := by
  cases h
  rw [upd_self hE]
  have hyl : ys.length = en - st := by rw [hys0, List.length_take, List.length_drop]; omega
  have hys : ys.length = Nat.min (en - st) L := by rw [hyl]; exact (Nat.min_eq_left (by omega)).symm
  have hfit : 0 + ys.length ≤ bs.length := by omega
  have hy0 : Bytes w bf (if L = st then 0 else 0 + st) ys := by
    by_cases hc : L = st
    · intro j hj; omega
    · rw [if_neg hc, Nat.zero_add, hys0]; exact Bytes.of_block hF0 _
  have h1 : decide ((0 : Int) < ((st : Nat) : Int)) = true := by simp; omega
  have h2 : (((en : Nat) : Int) == ((L : Nat) : Int)) = true := by rw [beq_iff_eq]; omega
  have hB1 : Blk w.drew sc (scC rd tok (.slice (some ⟨bf, 0, none⟩) L L) st en err cl) 67 := hB
  refine cE_still (by kernel_rfl) (by kernel_rfl) ?_
  refine sE_val (v := (.pointer (some ⟨sc, 0, none⟩))) (x_move (v := (.pointer (some ⟨sc, 0, none⟩))) rfl) rfl (by decide) rfl ?_
  refine sE_val (v := (.pointer (some ⟨sc, 0, none⟩))) (x_nil rfl) rfl (by decide) rfl ?_
  refine sE_val (v := (.pointer (some ⟨sc, 5, none⟩))) (x_fld (i := 5) (by decide) rfl) rfl (by decide) rfl ?_
  refine sE_val (v := (.int .i64 (st : Nat))) (x_loadB (Tryf.isAgg3 _) rfl hB1 rfl) rfl (by decide) rfl ?_
  refine sE_val (v := (.bool true)) (by rw [← h1]; exact x_gtr rfl rfl) rfl (by decide) rfl ?_
  refine sE_val (v := (.bool true)) (x_move (v := (.bool true)) rfl) rfl (by decide) rfl ?_
  refine sE_gval (v := (.pointer (some ⟨sc, 0, none⟩))) (x_move (v := (.pointer (some ⟨sc, 0, none⟩))) rfl) rfl (by decide) rfl rfl (by decide) rfl ?_
  refine sE_gval (v := (.pointer (some ⟨sc, 0, none⟩))) (x_nil rfl) rfl (by decide) rfl rfl (by decide) rfl ?_
  refine sE_gval (v := (.pointer (some ⟨sc, 6, none⟩))) (x_fld (i := 6) (by decide) rfl) rfl (by decide) rfl rfl (by decide) rfl ?_
  refine sE_gval (v := (.int .i64 (en : Nat))) (x_loadB (Tryf.isAgg3 _) rfl hB1 rfl) rfl (by decide) rfl rfl (by decide) rfl ?_
  refine sE_gval (v := (.pointer (some ⟨sc, 0, none⟩))) (x_move (v := (.pointer (some ⟨sc, 0, none⟩))) rfl) rfl (by decide) rfl rfl (by decide) rfl ?_
  refine sE_gval (v := (.pointer (some ⟨sc, 0, none⟩))) (x_nil rfl) rfl (by decide) rfl rfl (by decide) rfl ?_
  refine sE_gval (v := (.pointer (some ⟨sc, 4, none⟩))) (x_fld (i := 4) (by decide) rfl) rfl (by decide) rfl rfl (by decide) rfl ?_
  refine sE_gval (v := (.slice (some ⟨bf, 0, none⟩) L L)) (x_loadB (Tryf.isAgg65 _) rfl hB1 rfl) rfl (by decide) rfl rfl (by decide) rfl ?_
  refine sE_gval (v := (.int .i64 (L : Nat))) (x_len rfl) rfl (by decide) rfl rfl (by decide) rfl ?_
  refine sE_gval (v := (.bool true)) (by rw [← h2]; exact x_eql rfl rfl) rfl (by decide) rfl rfl (by decide) rfl ?_
  refine sE_gval (v := (.bool true)) (x_move (v := (.bool true)) rfl) rfl (by decide) rfl rfl (by decide) rfl ?_
  refine sE_gskip rfl (by decide) rfl rfl (by decide) (.inl rfl) ?_
  refine sE_gskip rfl (by decide) rfl rfl (by decide) (.inl rfl) ?_
  refine sE_gskip rfl (by decide) rfl rfl (by decide) (.inl rfl) ?_
  refine sE_gskip rfl (by decide) rfl rfl (by decide) (.inl rfl) ?_
  refine sE_gskip rfl (by decide) rfl rfl (by decide) (.inl rfl) ?_
  refine sE_gskip rfl (by decide) rfl rfl (by decide) (.inl rfl) ?_
  refine sE_gskip rfl (by decide) rfl rfl (by decide) (.inl rfl) ?_
  refine sE_gskip rfl (by decide) rfl rfl (by decide) (.inl rfl) ?_
  refine sE_gskip rfl (by decide) rfl rfl (by decide) (.inl rfl) ?_
  refine sE_gskip rfl (by decide) rfl rfl (by decide) (.inl rfl) ?_
  refine sE_gskip rfl (by decide) rfl rfl (by decide) (.inl rfl) ?_
  refine sE_gval (v := (.bool true)) (x_pickT (v := (.bool true)) rfl rfl) rfl (by decide) rfl rfl (by decide) rfl ?_
  refine sE_val (v := (.bool true)) (x_pickT (v := (.bool true)) rfl rfl) rfl (by decide) rfl ?_
  refine sE_nil ?_
  refine cE_condT rfl ?_
  have hB2 : Blk w.drew.drew sc (scC rd tok (.slice (some ⟨bf, 0, none⟩) L L) st en err cl) 67 := hB1
  have hF : Blk w.drew.drew bf (bs.map byteV).toArray 5 := hF0
  have hY : Bytes w.drew.drew bf (if L = st then 0 else 0 + st) ys := hy0
  refine cE_tail 17 (by kernel_rfl) (by kernel_rfl) ?_
  simp only [List.take_succ_cons, List.take_zero, List.drop_succ_cons, List.drop_zero]
  refine sE_val (v := (.pointer (some ⟨sc, 0, none⟩))) (x_move (v := (.pointer (some ⟨sc, 0, none⟩))) rfl) rfl (by decide) rfl ?_
  refine sE_val (v := (.pointer (some ⟨sc, 0, none⟩))) (x_nil rfl) rfl (by decide) rfl ?_
  refine sE_val (v := (.pointer (some ⟨sc, 4, none⟩))) (x_fld (i := 4) (by decide) rfl) rfl (by decide) rfl ?_
  refine sE_val (v := (.slice (some ⟨bf, 0, none⟩) L L)) (x_loadB (Tryf.isAgg65 _) rfl hB2 rfl) rfl (by decide) rfl ?_
  refine sE_val (v := (.pointer (some ⟨sc, 0, none⟩))) (x_move (v := (.pointer (some ⟨sc, 0, none⟩))) rfl) rfl (by decide) rfl ?_
  refine sE_val (v := (.pointer (some ⟨sc, 0, none⟩))) (x_nil rfl) rfl (by decide) rfl ?_
  refine sE_val (v := (.pointer (some ⟨sc, 4, none⟩))) (x_fld (i := 4) (by decide) rfl) rfl (by decide) rfl ?_
  refine sE_val (v := (.slice (some ⟨bf, 0, none⟩) L L)) (x_loadB (Tryf.isAgg65 _) rfl hB2 rfl) rfl (by decide) rfl ?_
  refine sE_val (v := (.pointer (some ⟨sc, 0, none⟩))) (x_move (v := (.pointer (some ⟨sc, 0, none⟩))) rfl) rfl (by decide) rfl ?_
  refine sE_val (v := (.pointer (some ⟨sc, 0, none⟩))) (x_nil rfl) rfl (by decide) rfl ?_
  refine sE_val (v := (.pointer (some ⟨sc, 5, none⟩))) (x_fld (i := 5) (by decide) rfl) rfl (by decide) rfl ?_
  refine sE_val (v := (.int .i64 (st : Nat))) (x_loadB (Tryf.isAgg3 _) rfl hB2 rfl) rfl (by decide) rfl ?_
  refine sE_val (v := (.pointer (some ⟨sc, 0, none⟩))) (x_move (v := (.pointer (some ⟨sc, 0, none⟩))) rfl) rfl (by decide) rfl ?_
  refine sE_val (v := (.pointer (some ⟨sc, 0, none⟩))) (x_nil rfl) rfl (by decide) rfl ?_
  refine sE_val (v := (.pointer (some ⟨sc, 6, none⟩))) (x_fld (i := 6) (by decide) rfl) rfl (by decide) rfl ?_
  refine sE_val (v := (.int .i64 (en : Nat))) (x_loadB (Tryf.isAgg3 _) rfl hB2 rfl) rfl (by decide) rfl ?_
  refine sE_val (v := (.slice (some ⟨bf, if L = st then 0 else 0 + st, none⟩) (en - st) (L - st))) (x_slice rfl rfl rfl (by omega) (by omega)) rfl (by decide) rfl ?_
  refine sE_nil ?_
  refine lE_val (v := (.int .i64 (ys.length : Nat))) (x_copyB (off := 0) rfl rfl hF hY hys hfit) rfl (by decide) rfl ?_
  refine lE_nil ?_
  have hB3 : Blk (w.drew.drew.setRow bf ((bs.take 0 ++ ys ++ bs.drop (0 + ys.length)).map byteV).toArray) sc (scC rd tok (.slice (some ⟨bf, 0, none⟩) L L) st en err cl) 67 := hB2.setRow_ne hne
  have hF3 : Blk (w.drew.drew.setRow bf ((bs.take 0 ++ ys ++ bs.drop (0 + ys.length)).map byteV).toArray) bf ((bs.take 0 ++ ys ++ bs.drop (0 + ys.length)).map byteV).toArray 5 := hF.setRow
  have hB4 : Blk (w.drew.drew.setRow bf ((bs.take 0 ++ ys ++ bs.drop (0 + ys.length)).map byteV).toArray).drew sc (scC rd tok (.slice (some ⟨bf, 0, none⟩) L L) st en err cl) 67 := hB3
  refine cE_tail 11 (by kernel_rfl) (by kernel_rfl) ?_
  simp only [List.take_succ_cons, List.take_zero, List.drop_succ_cons, List.drop_zero]
  refine sE_val (v := (.pointer (some ⟨sc, 0, none⟩))) (x_move (v := (.pointer (some ⟨sc, 0, none⟩))) rfl) rfl (by decide) rfl ?_
  refine sE_val (v := (.pointer (some ⟨sc, 0, none⟩))) (x_nil rfl) rfl (by decide) rfl ?_
  refine sE_val (v := (.pointer (some ⟨sc, 6, none⟩))) (x_fld (i := 6) (by decide) rfl) rfl (by decide) rfl ?_
  refine sE_val (v := (.int .i64 (en : Nat))) (x_loadB (Tryf.isAgg3 _) rfl hB4 rfl) rfl (by decide) rfl ?_
  refine sE_val (v := (.pointer (some ⟨sc, 0, none⟩))) (x_move (v := (.pointer (some ⟨sc, 0, none⟩))) rfl) rfl (by decide) rfl ?_
  refine sE_val (v := (.pointer (some ⟨sc, 0, none⟩))) (x_nil rfl) rfl (by decide) rfl ?_
  refine sE_val (v := (.pointer (some ⟨sc, 5, none⟩))) (x_fld (i := 5) (by decide) rfl) rfl (by decide) rfl ?_
  refine sE_val (v := (.int .i64 (st : Nat))) (x_loadB (Tryf.isAgg3 _) rfl hB4 rfl) rfl (by decide) rfl ?_
  refine sE_val (v := (.int .i64 (en - st : Nat))) (x_sub (r := ((en - st : Nat) : Int)) rfl rfl (by omega) (by omega) (by omega)) rfl (by decide) rfl ?_
  refine sE_val (v := (.pointer (some ⟨sc, 0, none⟩))) (x_nil rfl) rfl (by decide) rfl ?_
  refine sE_val (v := (.pointer (some ⟨sc, 6, none⟩))) (x_fld (i := 6) (by decide) rfl) rfl (by decide) rfl ?_
  refine sE_nil ?_
  refine lE_skip (x_storeB (v := (.int .i64 (en - st : Nat))) (Tryf.sizeOf3 _) rfl rfl rfl hB4 rfl) rfl rfl ?_
  refine lE_nil ?_
  have hB5 : Blk ((w.drew.drew.setRow bf ((bs.take 0 ++ ys ++ bs.drop (0 + ys.length)).map byteV).toArray).drew.setCell ⟨sc, 6, none⟩ (.int .i64 (en - st : Nat))) sc (scC rd tok (.slice (some ⟨bf, 0, none⟩) L L) st (en - st) err cl) 67 := hB4.setCell 6 _
  refine cE_list_last ?_
  refine lE_val (v := (.pointer (some ⟨sc, 0, none⟩))) (x_move (v := (.pointer (some ⟨sc, 0, none⟩))) rfl) rfl (by decide) rfl ?_
  refine lE_val (v := (.pointer (some ⟨sc, 0, none⟩))) (x_nil rfl) rfl (by decide) rfl ?_
  refine lE_val (v := (.pointer (some ⟨sc, 5, none⟩))) (x_fld (i := 5) (by decide) rfl) rfl (by decide) rfl ?_
  refine lE_skip (x_storeB (v := (.int .i64 0)) (Tryf.sizeOf3 _) rfl rfl rfl hB5 rfl) rfl rfl ?_
  refine lE_nil ?_
  have hB6 : Blk (((w.drew.drew.setRow bf ((bs.take 0 ++ ys ++ bs.drop (0 + ys.length)).map byteV).toArray).drew.setCell ⟨sc, 6, none⟩ (.int .i64 (en - st : Nat))).setCell ⟨sc, 5, none⟩ (.int .i64 0)) sc (scC rd tok (.slice (some ⟨bf, 0, none⟩) L L) 0 (en - st) err cl) 67 := hB5.setCell 5 _
  have hF5 : Blk (((w.drew.drew.setRow bf ((bs.take 0 ++ ys ++ bs.drop (0 + ys.length)).map byteV).toArray).drew.setCell ⟨sc, 6, none⟩ (.int .i64 (en - st : Nat))).setCell ⟨sc, 5, none⟩ (.int .i64 0)) bf ((bs.take 0 ++ ys ++ bs.drop (0 + ys.length)).map byteV).toArray 5 := Blk.setCell_ne (Blk.setCell_ne (w := (w.drew.drew.setRow bf ((bs.take 0 ++ ys ++ bs.drop (0 + ys.length)).map byteV).toArray).drew) hF3 (Ne.symm hne) 6 _) (Ne.symm hne) 5 _
  refine hQ _ _ rfl hB6 hF5 ?_
  exact ((((Keep.refl (fun k => k = sc ∨ k = bf) w).drew.drew.setRow (Or.inr rfl) _).drew.setCell (Or.inl rfl) _).setCell (Or.inl rfl) _)

theorem seg3_sh2 {c : Code} (h : findCond 153 (Tryf.f26.body.getD .skip) = some c) {Q : Exit → Env → World → Prop} {E : Env} {w : World} {sc : Nat} {rd tok err : Value} {cl : Bool} (hE : E 0 = .pointer (some ⟨sc, 0, none⟩)) {bf L st en : Nat} {bs ys : List UInt8} (hB : Blk w sc (scC rd tok (.slice (some ⟨bf, 0, none⟩) L L) st en err cl) 67) (hF0 : Blk w bf (bs.map byteV).toArray 5) (hne : sc ≠ bf) (hbs : bs.length = L)
    (hst : 0 < st) (hse : st ≤ en) (hen : en ≤ L) (hL : L ≤ 1000000) (hys0 : ys = (bs.drop st).take (en - st)) (hfull : en ≠ L) (hhalf : L / 2 < st)
    (hQ : ∀ E' w', E' 0 = .pointer (some ⟨sc, 0, none⟩) → Blk w' sc (scC rd tok (.slice (some ⟨bf, 0, none⟩) L L) 0 (en - st) err cl) 67 → Blk w' bf ((bs.take 0 ++ ys ++ bs.drop (0 + ys.length)).map byteV).toArray 5 → Keep (fun k => k = sc ∨ k = bf) w w' → Q .normal E' w') : cE Tryf.prog 334 c Q E w := by
  cases h
  rw [upd_self hE]
  have hyl : ys.length = en - st := by rw [hys0, List.length_take, List.length_drop]; omega
  have hys : ys.length = Nat.min (en - st) L := by rw [hyl]; exact (Nat.min_eq_left (by omega)).symm
  have hfit : 0 + ys.length ≤ bs.length := by omega
  have hy0 : Bytes w bf (if L = st then 0 else 0 + st) ys := by
    by_cases hc : L = st
    · intro j hj; omega
    · rw [if_neg hc, Nat.zero_add, hys0]; exact Bytes.of_block hF0 _
  have h1 : decide ((0 : Int) < ((st : Nat) : Int)) = true := by simp; omega
  have h2 : (((en : Nat) : Int) == ((L : Nat) : Int)) = false := by rw [beq_eq_false_iff_ne]; omega
  have h3 : decide (((L / 2 : Nat) : Int) < ((st : Nat) : Int)) = true := by simp; omega
  have hB1 : Blk w.drew sc (scC rd tok (.slice (some ⟨bf, 0, none⟩) L L) st en err cl) 67 := hB
  refine cE_still (by kernel_rfl) (by kernel_rfl) ?_
  refine sE_val (v := (.pointer (some ⟨sc, 0, none⟩))) (x_move (v := (.pointer (some ⟨sc, 0, none⟩))) rfl) rfl (by decide) rfl ?_
  refine sE_val (v := (.pointer (some ⟨sc, 0, none⟩))) (x_nil rfl) rfl (by decide) rfl ?_
  refine sE_val (v := (.pointer (some ⟨sc, 5, none⟩))) (x_fld (i := 5) (by decide) rfl) rfl (by decide) rfl ?_
  refine sE_val (v := (.int .i64 (st : Nat))) (x_loadB (Tryf.isAgg3 _) rfl hB1 rfl) rfl (by decide) rfl ?_
  refine sE_val (v := (.bool true)) (by rw [← h1]; exact x_gtr rfl rfl) rfl (by decide) rfl ?_
  refine sE_val (v := (.bool true)) (x_move (v := (.bool true)) rfl) rfl (by decide) rfl ?_
  refine sE_gval (v := (.pointer (some ⟨sc, 0, none⟩))) (x_move (v := (.pointer (some ⟨sc, 0, none⟩))) rfl) rfl (by decide) rfl rfl (by decide) rfl ?_
  refine sE_gval (v := (.pointer (some ⟨sc, 0, none⟩))) (x_nil rfl) rfl (by decide) rfl rfl (by decide) rfl ?_
  refine sE_gval (v := (.pointer (some ⟨sc, 6, none⟩))) (x_fld (i := 6) (by decide) rfl) rfl (by decide) rfl rfl (by decide) rfl ?_
  refine sE_gval (v := (.int .i64 (en : Nat))) (x_loadB (Tryf.isAgg3 _) rfl hB1 rfl) rfl (by decide) rfl rfl (by decide) rfl ?_
  refine sE_gval (v := (.pointer (some ⟨sc, 0, none⟩))) (x_move (v := (.pointer (some ⟨sc, 0, none⟩))) rfl) rfl (by decide) rfl rfl (by decide) rfl ?_
  refine sE_gval (v := (.pointer (some ⟨sc, 0, none⟩))) (x_nil rfl) rfl (by decide) rfl rfl (by decide) rfl ?_
  refine sE_gval (v := (.pointer (some ⟨sc, 4, none⟩))) (x_fld (i := 4) (by decide) rfl) rfl (by decide) rfl rfl (by decide) rfl ?_
  refine sE_gval (v := (.slice (some ⟨bf, 0, none⟩) L L)) (x_loadB (Tryf.isAgg65 _) rfl hB1 rfl) rfl (by decide) rfl rfl (by decide) rfl ?_
  refine sE_gval (v := (.int .i64 (L : Nat))) (x_len rfl) rfl (by decide) rfl rfl (by decide) rfl ?_
  refine sE_gval (v := (.bool false)) (by rw [← h2]; exact x_eql rfl rfl) rfl (by decide) rfl rfl (by decide) rfl ?_
  refine sE_gval (v := (.bool false)) (x_move (v := (.bool false)) rfl) rfl (by decide) rfl rfl (by decide) rfl ?_
  refine sE_gval (v := (.pointer (some ⟨sc, 0, none⟩))) (x_move (v := (.pointer (some ⟨sc, 0, none⟩))) rfl) rfl (by decide) rfl rfl (by decide) rfl ?_
  refine sE_gval (v := (.pointer (some ⟨sc, 0, none⟩))) (x_nil rfl) rfl (by decide) rfl rfl (by decide) rfl ?_
  refine sE_gval (v := (.pointer (some ⟨sc, 5, none⟩))) (x_fld (i := 5) (by decide) rfl) rfl (by decide) rfl rfl (by decide) rfl ?_
  refine sE_gval (v := (.int .i64 (st : Nat))) (x_loadB (Tryf.isAgg3 _) rfl hB1 rfl) rfl (by decide) rfl rfl (by decide) rfl ?_
  refine sE_gval (v := (.pointer (some ⟨sc, 0, none⟩))) (x_move (v := (.pointer (some ⟨sc, 0, none⟩))) rfl) rfl (by decide) rfl rfl (by decide) rfl ?_
  refine sE_gval (v := (.pointer (some ⟨sc, 0, none⟩))) (x_nil rfl) rfl (by decide) rfl rfl (by decide) rfl ?_
  refine sE_gval (v := (.pointer (some ⟨sc, 4, none⟩))) (x_fld (i := 4) (by decide) rfl) rfl (by decide) rfl rfl (by decide) rfl ?_
  refine sE_gval (v := (.slice (some ⟨bf, 0, none⟩) L L)) (x_loadB (Tryf.isAgg65 _) rfl hB1 rfl) rfl (by decide) rfl rfl (by decide) rfl ?_
  refine sE_gval (v := (.int .i64 (L : Nat))) (x_len rfl) rfl (by decide) rfl rfl (by decide) rfl ?_
  refine sE_gval (v := (.int .i64 (L / 2 : Nat))) (x_half (r := ((L / 2 : Nat) : Int)) rfl rfl (by omega) (by omega) (by omega)) rfl (by decide) rfl rfl (by decide) rfl ?_
  refine sE_gval (v := (.bool true)) (by rw [← h3]; exact x_gtr rfl rfl) rfl (by decide) rfl rfl (by decide) rfl ?_
  refine sE_gval (v := (.bool true)) (x_pickF (v := (.bool true)) rfl rfl) rfl (by decide) rfl rfl (by decide) rfl ?_
  refine sE_val (v := (.bool true)) (x_pickT (v := (.bool true)) rfl rfl) rfl (by decide) rfl ?_
  refine sE_nil ?_
  refine cE_condT rfl ?_
  have hB2 : Blk w.drew.drew sc (scC rd tok (.slice (some ⟨bf, 0, none⟩) L L) st en err cl) 67 := hB1
  have hF : Blk w.drew.drew bf (bs.map byteV).toArray 5 := hF0
  have hY : Bytes w.drew.drew bf (if L = st then 0 else 0 + st) ys := hy0
  refine cE_tail 17 (by kernel_rfl) (by kernel_rfl) ?_
  simp only [List.take_succ_cons, List.take_zero, List.drop_succ_cons, List.drop_zero]
  refine sE_val (v := (.pointer (some ⟨sc, 0, none⟩))) (x_move (v := (.pointer (some ⟨sc, 0, none⟩))) rfl) rfl (by decide) rfl ?_
  refine sE_val (v := (.pointer (some ⟨sc, 0, none⟩))) (x_nil rfl) rfl (by decide) rfl ?_
  refine sE_val (v := (.pointer (some ⟨sc, 4, none⟩))) (x_fld (i := 4) (by decide) rfl) rfl (by decide) rfl ?_
  refine sE_val (v := (.slice (some ⟨bf, 0, none⟩) L L)) (x_loadB (Tryf.isAgg65 _) rfl hB2 rfl) rfl (by decide) rfl ?_
  refine sE_val (v := (.pointer (some ⟨sc, 0, none⟩))) (x_move (v := (.pointer (some ⟨sc, 0, none⟩))) rfl) rfl (by decide) rfl ?_
  refine sE_val (v := (.pointer (some ⟨sc, 0, none⟩))) (x_nil rfl) rfl (by decide) rfl ?_
  refine sE_val (v := (.pointer (some ⟨sc, 4, none⟩))) (x_fld (i := 4) (by decide) rfl) rfl (by decide) rfl ?_
  refine sE_val (v := (.slice (some ⟨bf, 0, none⟩) L L)) (x_loadB (Tryf.isAgg65 _) rfl hB2 rfl) rfl (by decide) rfl ?_
  refine sE_val (v := (.pointer (some ⟨sc, 0, none⟩))) (x_move (v := (.pointer (some ⟨sc, 0, none⟩))) rfl) rfl (by decide) rfl ?_
  refine sE_val (v := (.pointer (some ⟨sc, 0, none⟩))) (x_nil rfl) rfl (by decide) rfl ?_
  refine sE_val (v := (.pointer (some ⟨sc, 5, none⟩))) (x_fld (i := 5) (by decide) rfl) rfl (by decide) rfl ?_
  refine sE_val (v := (.int .i64 (st : Nat))) (x_loadB (Tryf.isAgg3 _) rfl hB2 rfl) rfl (by decide) rfl ?_
  refine sE_val (v := (.pointer (some ⟨sc, 0, none⟩))) (x_move (v := (.pointer (some ⟨sc, 0, none⟩))) rfl) rfl (by decide) rfl ?_
  refine sE_val (v := (.pointer (some ⟨sc, 0, none⟩))) (x_nil rfl) rfl (by decide) rfl ?_
  refine sE_val (v := (.pointer (some ⟨sc, 6, none⟩))) (x_fld (i := 6) (by decide) rfl) rfl (by decide) rfl ?_
  refine sE_val (v := (.int .i64 (en : Nat))) (x_loadB (Tryf.isAgg3 _) rfl hB2 rfl) rfl (by decide) rfl ?_
  refine sE_val (v := (.slice (some ⟨bf, if L = st then 0 else 0 + st, none⟩) (en - st) (L - st))) (x_slice rfl rfl rfl (by omega) (by omega)) rfl (by decide) rfl ?_
  refine sE_nil ?_
  refine lE_val (v := (.int .i64 (ys.length : Nat))) (x_copyB (off := 0) rfl rfl hF hY hys hfit) rfl (by decide) rfl ?_
  refine lE_nil ?_
  have hB3 : Blk (w.drew.drew.setRow bf ((bs.take 0 ++ ys ++ bs.drop (0 + ys.length)).map byteV).toArray) sc (scC rd tok (.slice (some ⟨bf, 0, none⟩) L L) st en err cl) 67 := hB2.setRow_ne hne
  have hF3 : Blk (w.drew.drew.setRow bf ((bs.take 0 ++ ys ++ bs.drop (0 + ys.length)).map byteV).toArray) bf ((bs.take 0 ++ ys ++ bs.drop (0 + ys.length)).map byteV).toArray 5 := hF.setRow
  have hB4 : Blk (w.drew.drew.setRow bf ((bs.take 0 ++ ys ++ bs.drop (0 + ys.length)).map byteV).toArray).drew sc (scC rd tok (.slice (some ⟨bf, 0, none⟩) L L) st en err cl) 67 := hB3
  refine cE_tail 11 (by kernel_rfl) (by kernel_rfl) ?_
  simp only [List.take_succ_cons, List.take_zero, List.drop_succ_cons, List.drop_zero]
  refine sE_val (v := (.pointer (some ⟨sc, 0, none⟩))) (x_move (v := (.pointer (some ⟨sc, 0, none⟩))) rfl) rfl (by decide) rfl ?_
  refine sE_val (v := (.pointer (some ⟨sc, 0, none⟩))) (x_nil rfl) rfl (by decide) rfl ?_
  refine sE_val (v := (.pointer (some ⟨sc, 6, none⟩))) (x_fld (i := 6) (by decide) rfl) rfl (by decide) rfl ?_
  refine sE_val (v := (.int .i64 (en : Nat))) (x_loadB (Tryf.isAgg3 _) rfl hB4 rfl) rfl (by decide) rfl ?_
  refine sE_val (v := (.pointer (some ⟨sc, 0, none⟩))) (x_move (v := (.pointer (some ⟨sc, 0, none⟩))) rfl) rfl (by decide) rfl ?_
  refine sE_val (v := (.pointer (some ⟨sc, 0, none⟩))) (x_nil rfl) rfl (by decide) rfl ?_
  refine sE_val (v := (.pointer (some ⟨sc, 5, none⟩))) (x_fld (i := 5) (by decide) rfl) rfl (by decide) rfl ?_
  refine sE_val (v := (.int .i64 (st : Nat))) (x_loadB (Tryf.isAgg3 _) rfl hB4 rfl) rfl (by decide) rfl ?_
  refine sE_val (v := (.int .i64 (en - st : Nat))) (x_sub (r := ((en - st : Nat) : Int)) rfl rfl (by omega) (by omega) (by omega)) rfl (by decide) rfl ?_
  refine sE_val (v := (.pointer (some ⟨sc, 0, none⟩))) (x_nil rfl) rfl (by decide) rfl ?_
  refine sE_val (v := (.pointer (some ⟨sc, 6, none⟩))) (x_fld (i := 6) (by decide) rfl) rfl (by decide) rfl ?_
  refine sE_nil ?_
  refine lE_skip (x_storeB (v := (.int .i64 (en - st : Nat))) (Tryf.sizeOf3 _) rfl rfl rfl hB4 rfl) rfl rfl ?_
  refine lE_nil ?_
  have hB5 : Blk ((w.drew.drew.setRow bf ((bs.take 0 ++ ys ++ bs.drop (0 + ys.length)).map byteV).toArray).drew.setCell ⟨sc, 6, none⟩ (.int .i64 (en - st : Nat))) sc (scC rd tok (.slice (some ⟨bf, 0, none⟩) L L) st (en - st) err cl) 67 := hB4.setCell 6 _
  refine cE_list_last ?_
  refine lE_val (v := (.pointer (some ⟨sc, 0, none⟩))) (x_move (v := (.pointer (some ⟨sc, 0, none⟩))) rfl) rfl (by decide) rfl ?_
  refine lE_val (v := (.pointer (some ⟨sc, 0, none⟩))) (x_nil rfl) rfl (by decide) rfl ?_
  refine lE_val (v := (.pointer (some ⟨sc, 5, none⟩))) (x_fld (i := 5) (by decide) rfl) rfl (by decide) rfl ?_
  refine lE_skip (x_storeB (v := (.int .i64 0)) (Tryf.sizeOf3 _) rfl rfl rfl hB5 rfl) rfl rfl ?_
  refine lE_nil ?_
  have hB6 : Blk (((w.drew.drew.setRow bf ((bs.take 0 ++ ys ++ bs.drop (0 + ys.length)).map byteV).toArray).drew.setCell ⟨sc, 6, none⟩ (.int .i64 (en - st : Nat))).setCell ⟨sc, 5, none⟩ (.int .i64 0)) sc (scC rd tok (.slice (some ⟨bf, 0, none⟩) L L) 0 (en - st) err cl) 67 := hB5.setCell 5 _
  have hF5 : Blk (((w.drew.drew.setRow bf ((bs.take 0 ++ ys ++ bs.drop (0 + ys.length)).map byteV).toArray).drew.setCell ⟨sc, 6, none⟩ (.int .i64 (en - st : Nat))).setCell ⟨sc, 5, none⟩ (.int .i64 0)) bf ((bs.take 0 ++ ys ++ bs.drop (0 + ys.length)).map byteV).toArray 5 := Blk.setCell_ne (Blk.setCell_ne (w := (w.drew.drew.setRow bf ((bs.take 0 ++ ys ++ bs.drop (0 + ys.length)).map byteV).toArray).drew) hF3 (Ne.symm hne) 6 _) (Ne.symm hne) 5 _
  refine hQ _ _ rfl hB6 hF5 ?_
  exact ((((Keep.refl (fun k => k = sc ∨ k = bf) w).drew.drew.setRow (Or.inr rfl) _).drew.setCell (Or.inl rfl) _).setCell (Or.inl rfl) _)

end Go.Proofs.Qxb6613145aFmt
