/-
  (*bufio.Scanner).Scan, a piece. (The regions' lines are written by gen/scan.py.)
-/
import Derived.Test.Qxb6613145aFmtRead
namespace Go.Proofs.Qxb6613145aFmt
open Go.RowKit
set_option maxRecDepth 100000

theorem Keep.st {sc : Nat} {a w : World} (h : Keep (fun k => k = sc) a w) (i : Nat) (v : Value) : Keep (fun k => k = sc) a (w.setCell ⟨sc, i, none⟩ v) := h.setCell rfl v

theorem seg1_found_nil {c : Code} (h : findCond 33 (Tryf.f26.body.getD .skip) = some c) {Q : Exit → Env → World → Prop} {E : Env} {w : World} {sc : Nat} {rd tok : Value} {cl : Bool} (hE : E 0 = .pointer (some ⟨sc, 0, none⟩)) {bf L st en : Nat} (hB : Blk w sc (scC rd tok (.slice (some ⟨bf, 0, none⟩) L L) st en .nilIface cl) 67)
    (hlt : st < en) (hen : en ≤ L) (hL : L ≤ 1000000) {xs : List UInt8} (hn : xs.length = en - st) (hx : Bytes w bf st xs) {j : Nat} (hj : Lib.indexByte xs 10 = (j : Int)) (hjn : j < en - st)
    (hQ : ∀ E' w', E' 2 = .bool true → Blk w' sc (scC rd (.slice (some ⟨bf, st, none⟩) (dropCRl (xs.take j)).length (L - st)) (.slice (some ⟨bf, 0, none⟩) L L) (st + (j + 1)) en .nilIface cl) 67 → Keep (fun k => k = sc) w w' → Q .ret E' w') : cE Tryf.prog 334 c Q E w := by
  cases h
  rw [upd_self hE]
  have hd : decide (((st : Nat) : Int) < ((en : Nat) : Int)) = true := by simp; omega
  have hx2 : Bytes w.drew.drew bf st xs := hx
  have hB1 : Blk w.drew sc (scC rd tok (.slice (some ⟨bf, 0, none⟩) L L) st en .nilIface cl) 67 := hB
  refine cE_still (by kernel_rfl) (by kernel_rfl) ?_
  refine sE_val (v := (.pointer (some ⟨sc, 0, none⟩))) (x_move (v := (.pointer (some ⟨sc, 0, none⟩))) rfl) rfl (by decide) rfl ?_
  refine sE_val (v := (.pointer (some ⟨sc, 0, none⟩))) (x_nil rfl) rfl (by decide) rfl ?_
  refine sE_val (v := (.pointer (some ⟨sc, 6, none⟩))) (x_fld (i := 6) (by decide) rfl) rfl (by decide) rfl ?_
  refine sE_val (v := (.int .i64 (en : Nat))) (x_loadB (Tryf.isAgg3 _) rfl hB1 rfl) rfl (by decide) rfl ?_
  refine sE_val (v := (.pointer (some ⟨sc, 0, none⟩))) (x_move (v := (.pointer (some ⟨sc, 0, none⟩))) rfl) rfl (by decide) rfl ?_
  refine sE_val (v := (.pointer (some ⟨sc, 0, none⟩))) (x_nil rfl) rfl (by decide) rfl ?_
  refine sE_val (v := (.pointer (some ⟨sc, 5, none⟩))) (x_fld (i := 5) (by decide) rfl) rfl (by decide) rfl ?_
  refine sE_val (v := (.int .i64 (st : Nat))) (x_loadB (Tryf.isAgg3 _) rfl hB1 rfl) rfl (by decide) rfl ?_
  refine sE_val (v := (.bool true)) (by rw [← hd]; exact x_gtr rfl rfl) rfl (by decide) rfl ?_
  refine sE_val (v := (.bool true)) (x_move (v := (.bool true)) rfl) rfl (by decide) rfl ?_
  refine sE_gskip rfl (by decide) rfl rfl (by decide) (.inl rfl) ?_
  refine sE_gskip rfl (by decide) rfl rfl (by decide) (.inl rfl) ?_
  refine sE_gskip rfl (by decide) rfl rfl (by decide) (.inl rfl) ?_
  refine sE_gskip rfl (by decide) rfl rfl (by decide) (.inl rfl) ?_
  refine sE_gskip rfl (by decide) rfl rfl (by decide) (.inl rfl) ?_
  refine sE_val (v := (.bool true)) (x_pickT (v := (.bool true)) rfl rfl) rfl (by decide) rfl ?_
  refine sE_nil ?_
  refine cE_condT rfl ?_
  have hB2 : Blk w.drew.drew sc (scC rd tok (.slice (some ⟨bf, 0, none⟩) L L) st en .nilIface cl) 67 := hB1
  refine cE_still (by kernel_rfl) (by kernel_rfl) ?_
  refine sE_val (v := (.pointer (some ⟨sc, 0, none⟩))) (x_move (v := (.pointer (some ⟨sc, 0, none⟩))) rfl) rfl (by decide) rfl ?_
  refine sE_val (v := (.pointer (some ⟨sc, 0, none⟩))) (x_nil rfl) rfl (by decide) rfl ?_
  refine sE_val (v := (.pointer (some ⟨sc, 1, none⟩))) (x_fld (i := 1) (by decide) rfl) rfl (by decide) rfl ?_
  refine sE_val (v := (.func (.func 39) #[] #[])) (x_loadB (Tryf.isAgg64 _) rfl hB2 rfl) rfl (by decide) rfl ?_
  refine sE_val (v := (.pointer (some ⟨sc, 0, none⟩))) (x_move (v := (.pointer (some ⟨sc, 0, none⟩))) rfl) rfl (by decide) rfl ?_
  refine sE_val (v := (.pointer (some ⟨sc, 0, none⟩))) (x_nil rfl) rfl (by decide) rfl ?_
  refine sE_val (v := (.pointer (some ⟨sc, 4, none⟩))) (x_fld (i := 4) (by decide) rfl) rfl (by decide) rfl ?_
  refine sE_val (v := (.slice (some ⟨bf, 0, none⟩) L L)) (x_loadB (Tryf.isAgg65 _) rfl hB2 rfl) rfl (by decide) rfl ?_
  refine sE_val (v := (.pointer (some ⟨sc, 0, none⟩))) (x_move (v := (.pointer (some ⟨sc, 0, none⟩))) rfl) rfl (by decide) rfl ?_
  refine sE_val (v := (.pointer (some ⟨sc, 0, none⟩))) (x_nil rfl) rfl (by decide) rfl ?_
  refine sE_val (v := (.pointer (some ⟨sc, 5, none⟩))) (x_fld (i := 5) (by decide) rfl) rfl (by decide) rfl ?_
  refine sE_val (v := (.int .i64 (st : Nat))) (x_loadB (Tryf.isAgg3 _) rfl hB2 rfl) rfl (by decide) rfl ?_
  refine sE_val (v := (.pointer (some ⟨sc, 0, none⟩))) (x_move (v := (.pointer (some ⟨sc, 0, none⟩))) rfl) rfl (by decide) rfl ?_
  refine sE_val (v := (.pointer (some ⟨sc, 0, none⟩))) (x_nil rfl) rfl (by decide) rfl ?_
  refine sE_val (v := (.pointer (some ⟨sc, 6, none⟩))) (x_fld (i := 6) (by decide) rfl) rfl (by decide) rfl ?_
  refine sE_val (v := (.int .i64 (en : Nat))) (x_loadB (Tryf.isAgg3 _) rfl hB2 rfl) rfl (by decide) rfl ?_
  refine sE_val (v := (.slice (some ⟨bf, st, none⟩) (en - st) (L - st))) (x_slice00 rfl rfl rfl (by omega) (by omega) (by omega)) rfl (by decide) rfl ?_
  refine sE_val (v := (.pointer (some ⟨sc, 0, none⟩))) (x_move (v := (.pointer (some ⟨sc, 0, none⟩))) rfl) rfl (by decide) rfl ?_
  refine sE_val (v := (.pointer (some ⟨sc, 0, none⟩))) (x_nil rfl) rfl (by decide) rfl ?_
  refine sE_val (v := (.pointer (some ⟨sc, 7, none⟩))) (x_fld (i := 7) (by decide) rfl) rfl (by decide) rfl ?_
  refine sE_val (v := .nilIface) (x_loadB (Tryf.isAgg32 _) rfl hB2 rfl) rfl (by decide) rfl ?_
  refine sE_val (v := (.bool false)) (x_neqnil rfl rfl) rfl (by decide) rfl ?_
  refine sE_call (v := (.tuple #[(.int .i64 (j + 1 : Nat)), (.slice (some ⟨bf, st, none⟩) (dropCRl (xs.take j)).length (L - st)), .nilIface])) (x_callv2n Tryf.func39 (by kernel_rfl) (by kernel_rfl) rfl rfl rfl) rfl (by decide) rfl (scanLines_found (c := L - st) hn (by omega) (by omega) hx2 false hj hjn) ?_
  refine sE_val (v := (.tuple #[(.int .i64 (j + 1 : Nat)), (.slice (some ⟨bf, st, none⟩) (dropCRl (xs.take j)).length (L - st)), .nilIface])) (x_move (v := (.tuple #[(.int .i64 (j + 1 : Nat)), (.slice (some ⟨bf, st, none⟩) (dropCRl (xs.take j)).length (L - st)), .nilIface])) rfl) rfl (by decide) rfl ?_
  refine sE_val (v := (.int .i64 (j + 1 : Nat))) (x_ext (v := (.int .i64 (j + 1 : Nat))) rfl rfl) rfl (by decide) rfl ?_
  refine sE_val (v := (.slice (some ⟨bf, st, none⟩) (dropCRl (xs.take j)).length (L - st))) (x_ext (v := (.slice (some ⟨bf, st, none⟩) (dropCRl (xs.take j)).length (L - st))) rfl rfl) rfl (by decide) rfl ?_
  refine sE_val (v := .nilIface) (x_ext (v := .nilIface) rfl rfl) rfl (by decide) rfl ?_
  refine sE_val (v := (.int .i64 (j + 1 : Nat))) (x_assign (v := (.int .i64 (j + 1 : Nat))) rfl) rfl (by decide) rfl ?_
  refine sE_val (v := (.slice (some ⟨bf, st, none⟩) (dropCRl (xs.take j)).length (L - st))) (x_assign (v := (.slice (some ⟨bf, st, none⟩) (dropCRl (xs.take j)).length (L - st))) rfl) rfl (by decide) rfl ?_
  refine sE_val (v := .nilIface) (x_assign (v := .nilIface) rfl) rfl (by decide) rfl ?_
  refine sE_nil ?_
  refine cE_seq ?_
  refine cE_list ?_
  refine lE_val (v := .nilIface) (x_move (v := .nilIface) rfl) rfl (by decide) rfl ?_
  refine lE_val (v := (.bool false)) (x_neqnil rfl rfl) rfl (by decide) rfl ?_
  refine lE_nil ?_
  refine cE_condF rfl (cE_skipT ?_)
  refine cE_seq ?_
  refine cE_list ?_
  refine lE_val (v := (.pointer (some ⟨sc, 0, none⟩))) (x_move (v := (.pointer (some ⟨sc, 0, none⟩))) rfl) rfl (by decide) rfl ?_
  refine lE_val (v := (.int .i64 (j + 1 : Nat))) (x_move (v := (.int .i64 (j + 1 : Nat))) rfl) rfl (by decide) rfl ?_
  refine lE_call (x_call2 Tryf.func35 (by kernel_rfl) (by kernel_rfl) rfl rfl rfl) rfl (by decide) rfl ?_
  refine Calls.mono (advance_calls hB2 (j + 1) (by omega) (by omega)) ?_
  intro r w1 hr; obtain ⟨hr1, hr2⟩ := hr; rw [hr1, hr2]; refine ⟨_, rfl, ?_⟩
  refine lE_val (v := (.bool false)) (x_not (b := true) rfl) rfl (by decide) rfl ?_
  refine lE_nil ?_
  have hB3 : Blk (w.drew.drew.drew.setCell ⟨sc, 5, none⟩ (.int .i64 (st + (j + 1) : Nat))) sc (scC rd tok (.slice (some ⟨bf, 0, none⟩) L L) (st + (j + 1)) en .nilIface cl) 67 := Blk.setCell (w := w.drew.drew.drew) hB2 5 _
  refine cE_condF rfl (cE_skipT ?_)
  refine cE_list ?_
  refine lE_val (v := (.pointer (some ⟨sc, 0, none⟩))) (x_move (v := (.pointer (some ⟨sc, 0, none⟩))) rfl) rfl (by decide) rfl ?_
  refine lE_val (v := (.slice (some ⟨bf, st, none⟩) (dropCRl (xs.take j)).length (L - st))) (x_move (v := (.slice (some ⟨bf, st, none⟩) (dropCRl (xs.take j)).length (L - st))) rfl) rfl (by decide) rfl ?_
  refine lE_val (v := (.pointer (some ⟨sc, 0, none⟩))) (x_nil rfl) rfl (by decide) rfl ?_
  refine lE_val (v := (.pointer (some ⟨sc, 3, none⟩))) (x_fld (i := 3) (by decide) rfl) rfl (by decide) rfl ?_
  refine lE_skip (x_storeB (v := (.slice (some ⟨bf, st, none⟩) (dropCRl (xs.take j)).length (L - st))) (Tryf.sizeOf65 _) rfl rfl rfl hB3 rfl) rfl rfl ?_
  refine lE_nil ?_
  have hB4 : Blk ((w.drew.drew.drew.setCell ⟨sc, 5, none⟩ (.int .i64 (st + (j + 1) : Nat))).setCell ⟨sc, 3, none⟩ (.slice (some ⟨bf, st, none⟩) (dropCRl (xs.take j)).length (L - st))) sc (scC rd (.slice (some ⟨bf, st, none⟩) (dropCRl (xs.take j)).length (L - st)) (.slice (some ⟨bf, 0, none⟩) L L) (st + (j + 1)) en .nilIface cl) 67 := hB3.setCell 3 _
  refine cE_list ?_
  refine lE_val (v := (.slice (some ⟨bf, st, none⟩) (dropCRl (xs.take j)).length (L - st))) (x_move (v := (.slice (some ⟨bf, st, none⟩) (dropCRl (xs.take j)).length (L - st))) rfl) rfl (by decide) rfl ?_
  refine lE_val (v := (.bool true)) (x_tok rfl rfl) rfl (by decide) rfl ?_
  refine lE_nil ?_
  refine cE_condT rfl ?_
  refine cE_seq ?_
  refine cE_list ?_
  refine lE_val (v := (.pointer (some ⟨sc, 0, none⟩))) (x_move (v := (.pointer (some ⟨sc, 0, none⟩))) rfl) rfl (by decide) rfl ?_
  refine lE_val (v := (.pointer (some ⟨sc, 0, none⟩))) (x_nil rfl) rfl (by decide) rfl ?_
  refine lE_val (v := (.pointer (some ⟨sc, 7, none⟩))) (x_fld (i := 7) (by decide) rfl) rfl (by decide) rfl ?_
  refine lE_val (v := .nilIface) (x_loadB (Tryf.isAgg32 _) rfl hB4 rfl) rfl (by decide) rfl ?_
  refine lE_val (v := (.bool true)) (x_eqnil rfl rfl) rfl (by decide) rfl ?_
  refine lE_val (v := (.bool true)) (x_move (v := (.bool true)) rfl) rfl (by decide) rfl ?_
  refine lE_gskip rfl (by decide) rfl rfl (by decide) (.inl rfl) ?_
  refine lE_gskip rfl (by decide) rfl rfl (by decide) (.inl rfl) ?_
  refine lE_val (v := (.bool true)) (x_pickT (v := (.bool true)) rfl rfl) rfl (by decide) rfl ?_
  refine lE_nil ?_
  refine cE_condT rfl ?_
  refine cE_list_lastT ?_
  refine lE_val (v := (.pointer (some ⟨sc, 0, none⟩))) (x_move (v := (.pointer (some ⟨sc, 0, none⟩))) rfl) rfl (by decide) rfl ?_
  refine lE_val (v := (.pointer (some ⟨sc, 0, none⟩))) (x_nil rfl) rfl (by decide) rfl ?_
  refine lE_val (v := (.pointer (some ⟨sc, 8, none⟩))) (x_fld (i := 8) (by decide) rfl) rfl (by decide) rfl ?_
  refine lE_skip (x_storeB (v := (.int .i64 0)) (Tryf.sizeOf3 _) rfl rfl rfl hB4 rfl) rfl rfl ?_
  refine lE_nil ?_
  have hB5 : Blk (((w.drew.drew.drew.setCell ⟨sc, 5, none⟩ (.int .i64 (st + (j + 1) : Nat))).setCell ⟨sc, 3, none⟩ (.slice (some ⟨bf, st, none⟩) (dropCRl (xs.take j)).length (L - st))).setCell ⟨sc, 8, none⟩ (.int .i64 0)) sc (scC rd (.slice (some ⟨bf, st, none⟩) (dropCRl (xs.take j)).length (L - st)) (.slice (some ⟨bf, 0, none⟩) L L) (st + (j + 1)) en .nilIface cl) 67 := hB4.setCell 8 _
  refine cE_list ?_
  refine lE_val (v := (.bool true)) (x_assign (v := (.bool true)) rfl) rfl (by decide) rfl ?_
  refine lE_nil ?_
  refine cE_ret ?_
  refine hQ _ _ rfl hB5 ?_
  exact (((Keep.refl (fun k => k = sc) w).drew.drew.drew.st _ _).st _ _).st _ _

theorem seg1_found_eof {c : Code} (h : findCond 33 (Tryf.f26.body.getD .skip) = some c) {Q : Exit → Env → World → Prop} {E : Env} {w : World} {sc : Nat} {rd tok : Value} {cl : Bool} (hE : E 0 = .pointer (some ⟨sc, 0, none⟩)) {te : TypeId} {tv : Value} {bf L st en : Nat} (hB : Blk w sc (scC rd tok (.slice (some ⟨bf, 0, none⟩) L L) st en (.iface te tv) cl) 67)
    (hlt : st < en) (hen : en ≤ L) (hL : L ≤ 1000000) {xs : List UInt8} (hn : xs.length = en - st) (hx : Bytes w bf st xs) {j : Nat} (hj : Lib.indexByte xs 10 = (j : Int)) (hjn : j < en - st)
    (hQ : ∀ E' w', E' 2 = .bool true → Blk w' sc (scC rd (.slice (some ⟨bf, st, none⟩) (dropCRl (xs.take j)).length (L - st)) (.slice (some ⟨bf, 0, none⟩) L L) (st + (j + 1)) en (.iface te tv) cl) 67 → Keep (fun k => k = sc) w w' → Q .ret E' w') : cE Tryf.prog 334 c Q E w := by
  cases h
  rw [upd_self hE]
  have hd : decide (((st : Nat) : Int) < ((en : Nat) : Int)) = true := by simp; omega
  have hx2 : Bytes w.drew.drew bf st xs := hx
  have ha : decide ((0 : Int) < ((j + 1 : Nat) : Int)) = true := by simp
  have hB1 : Blk w.drew sc (scC rd tok (.slice (some ⟨bf, 0, none⟩) L L) st en (.iface te tv) cl) 67 := hB
  refine cE_still (by kernel_rfl) (by kernel_rfl) ?_
  refine sE_val (v := (.pointer (some ⟨sc, 0, none⟩))) (x_move (v := (.pointer (some ⟨sc, 0, none⟩))) rfl) rfl (by decide) rfl ?_
  refine sE_val (v := (.pointer (some ⟨sc, 0, none⟩))) (x_nil rfl) rfl (by decide) rfl ?_
  refine sE_val (v := (.pointer (some ⟨sc, 6, none⟩))) (x_fld (i := 6) (by decide) rfl) rfl (by decide) rfl ?_
  refine sE_val (v := (.int .i64 (en : Nat))) (x_loadB (Tryf.isAgg3 _) rfl hB1 rfl) rfl (by decide) rfl ?_
  refine sE_val (v := (.pointer (some ⟨sc, 0, none⟩))) (x_move (v := (.pointer (some ⟨sc, 0, none⟩))) rfl) rfl (by decide) rfl ?_
  refine sE_val (v := (.pointer (some ⟨sc, 0, none⟩))) (x_nil rfl) rfl (by decide) rfl ?_
  refine sE_val (v := (.pointer (some ⟨sc, 5, none⟩))) (x_fld (i := 5) (by decide) rfl) rfl (by decide) rfl ?_
  refine sE_val (v := (.int .i64 (st : Nat))) (x_loadB (Tryf.isAgg3 _) rfl hB1 rfl) rfl (by decide) rfl ?_
  refine sE_val (v := (.bool true)) (by rw [← hd]; exact x_gtr rfl rfl) rfl (by decide) rfl ?_
  refine sE_val (v := (.bool true)) (x_move (v := (.bool true)) rfl) rfl (by decide) rfl ?_
  refine sE_gskip rfl (by decide) rfl rfl (by decide) (.inl rfl) ?_
  refine sE_gskip rfl (by decide) rfl rfl (by decide) (.inl rfl) ?_
  refine sE_gskip rfl (by decide) rfl rfl (by decide) (.inl rfl) ?_
  refine sE_gskip rfl (by decide) rfl rfl (by decide) (.inl rfl) ?_
  refine sE_gskip rfl (by decide) rfl rfl (by decide) (.inl rfl) ?_
  refine sE_val (v := (.bool true)) (x_pickT (v := (.bool true)) rfl rfl) rfl (by decide) rfl ?_
  refine sE_nil ?_
  refine cE_condT rfl ?_
  have hB2 : Blk w.drew.drew sc (scC rd tok (.slice (some ⟨bf, 0, none⟩) L L) st en (.iface te tv) cl) 67 := hB1
  refine cE_still (by kernel_rfl) (by kernel_rfl) ?_
  refine sE_val (v := (.pointer (some ⟨sc, 0, none⟩))) (x_move (v := (.pointer (some ⟨sc, 0, none⟩))) rfl) rfl (by decide) rfl ?_
  refine sE_val (v := (.pointer (some ⟨sc, 0, none⟩))) (x_nil rfl) rfl (by decide) rfl ?_
  refine sE_val (v := (.pointer (some ⟨sc, 1, none⟩))) (x_fld (i := 1) (by decide) rfl) rfl (by decide) rfl ?_
  refine sE_val (v := (.func (.func 39) #[] #[])) (x_loadB (Tryf.isAgg64 _) rfl hB2 rfl) rfl (by decide) rfl ?_
  refine sE_val (v := (.pointer (some ⟨sc, 0, none⟩))) (x_move (v := (.pointer (some ⟨sc, 0, none⟩))) rfl) rfl (by decide) rfl ?_
  refine sE_val (v := (.pointer (some ⟨sc, 0, none⟩))) (x_nil rfl) rfl (by decide) rfl ?_
  refine sE_val (v := (.pointer (some ⟨sc, 4, none⟩))) (x_fld (i := 4) (by decide) rfl) rfl (by decide) rfl ?_
  refine sE_val (v := (.slice (some ⟨bf, 0, none⟩) L L)) (x_loadB (Tryf.isAgg65 _) rfl hB2 rfl) rfl (by decide) rfl ?_
  refine sE_val (v := (.pointer (some ⟨sc, 0, none⟩))) (x_move (v := (.pointer (some ⟨sc, 0, none⟩))) rfl) rfl (by decide) rfl ?_
  refine sE_val (v := (.pointer (some ⟨sc, 0, none⟩))) (x_nil rfl) rfl (by decide) rfl ?_
  refine sE_val (v := (.pointer (some ⟨sc, 5, none⟩))) (x_fld (i := 5) (by decide) rfl) rfl (by decide) rfl ?_
  refine sE_val (v := (.int .i64 (st : Nat))) (x_loadB (Tryf.isAgg3 _) rfl hB2 rfl) rfl (by decide) rfl ?_
  refine sE_val (v := (.pointer (some ⟨sc, 0, none⟩))) (x_move (v := (.pointer (some ⟨sc, 0, none⟩))) rfl) rfl (by decide) rfl ?_
  refine sE_val (v := (.pointer (some ⟨sc, 0, none⟩))) (x_nil rfl) rfl (by decide) rfl ?_
  refine sE_val (v := (.pointer (some ⟨sc, 6, none⟩))) (x_fld (i := 6) (by decide) rfl) rfl (by decide) rfl ?_
  refine sE_val (v := (.int .i64 (en : Nat))) (x_loadB (Tryf.isAgg3 _) rfl hB2 rfl) rfl (by decide) rfl ?_
  refine sE_val (v := (.slice (some ⟨bf, st, none⟩) (en - st) (L - st))) (x_slice00 rfl rfl rfl (by omega) (by omega) (by omega)) rfl (by decide) rfl ?_
  refine sE_val (v := (.pointer (some ⟨sc, 0, none⟩))) (x_move (v := (.pointer (some ⟨sc, 0, none⟩))) rfl) rfl (by decide) rfl ?_
  refine sE_val (v := (.pointer (some ⟨sc, 0, none⟩))) (x_nil rfl) rfl (by decide) rfl ?_
  refine sE_val (v := (.pointer (some ⟨sc, 7, none⟩))) (x_fld (i := 7) (by decide) rfl) rfl (by decide) rfl ?_
  refine sE_val (v := (.iface te tv)) (x_loadB (Tryf.isAgg32 _) rfl hB2 rfl) rfl (by decide) rfl ?_
  refine sE_val (v := (.bool true)) (x_neqnil' rfl rfl) rfl (by decide) rfl ?_
  refine sE_call (v := (.tuple #[(.int .i64 (j + 1 : Nat)), (.slice (some ⟨bf, st, none⟩) (dropCRl (xs.take j)).length (L - st)), .nilIface])) (x_callv2n Tryf.func39 (by kernel_rfl) (by kernel_rfl) rfl rfl rfl) rfl (by decide) rfl (scanLines_found (c := L - st) hn (by omega) (by omega) hx2 true hj hjn) ?_
  refine sE_val (v := (.tuple #[(.int .i64 (j + 1 : Nat)), (.slice (some ⟨bf, st, none⟩) (dropCRl (xs.take j)).length (L - st)), .nilIface])) (x_move (v := (.tuple #[(.int .i64 (j + 1 : Nat)), (.slice (some ⟨bf, st, none⟩) (dropCRl (xs.take j)).length (L - st)), .nilIface])) rfl) rfl (by decide) rfl ?_
  refine sE_val (v := (.int .i64 (j + 1 : Nat))) (x_ext (v := (.int .i64 (j + 1 : Nat))) rfl rfl) rfl (by decide) rfl ?_
  refine sE_val (v := (.slice (some ⟨bf, st, none⟩) (dropCRl (xs.take j)).length (L - st))) (x_ext (v := (.slice (some ⟨bf, st, none⟩) (dropCRl (xs.take j)).length (L - st))) rfl rfl) rfl (by decide) rfl ?_
  refine sE_val (v := .nilIface) (x_ext (v := .nilIface) rfl rfl) rfl (by decide) rfl ?_
  refine sE_val (v := (.int .i64 (j + 1 : Nat))) (x_assign (v := (.int .i64 (j + 1 : Nat))) rfl) rfl (by decide) rfl ?_
  refine sE_val (v := (.slice (some ⟨bf, st, none⟩) (dropCRl (xs.take j)).length (L - st))) (x_assign (v := (.slice (some ⟨bf, st, none⟩) (dropCRl (xs.take j)).length (L - st))) rfl) rfl (by decide) rfl ?_
  refine sE_val (v := .nilIface) (x_assign (v := .nilIface) rfl) rfl (by decide) rfl ?_
  refine sE_nil ?_
  refine cE_seq ?_
  refine cE_list ?_
  refine lE_val (v := .nilIface) (x_move (v := .nilIface) rfl) rfl (by decide) rfl ?_
  refine lE_val (v := (.bool false)) (x_neqnil rfl rfl) rfl (by decide) rfl ?_
  refine lE_nil ?_
  refine cE_condF rfl (cE_skipT ?_)
  refine cE_seq ?_
  refine cE_list ?_
  refine lE_val (v := (.pointer (some ⟨sc, 0, none⟩))) (x_move (v := (.pointer (some ⟨sc, 0, none⟩))) rfl) rfl (by decide) rfl ?_
  refine lE_val (v := (.int .i64 (j + 1 : Nat))) (x_move (v := (.int .i64 (j + 1 : Nat))) rfl) rfl (by decide) rfl ?_
  refine lE_call (x_call2 Tryf.func35 (by kernel_rfl) (by kernel_rfl) rfl rfl rfl) rfl (by decide) rfl ?_
  refine Calls.mono (advance_calls hB2 (j + 1) (by omega) (by omega)) ?_
  intro r w1 hr; obtain ⟨hr1, hr2⟩ := hr; rw [hr1, hr2]; refine ⟨_, rfl, ?_⟩
  refine lE_val (v := (.bool false)) (x_not (b := true) rfl) rfl (by decide) rfl ?_
  refine lE_nil ?_
  have hB3 : Blk (w.drew.drew.drew.setCell ⟨sc, 5, none⟩ (.int .i64 (st + (j + 1) : Nat))) sc (scC rd tok (.slice (some ⟨bf, 0, none⟩) L L) (st + (j + 1)) en (.iface te tv) cl) 67 := Blk.setCell (w := w.drew.drew.drew) hB2 5 _
  refine cE_condF rfl (cE_skipT ?_)
  refine cE_list ?_
  refine lE_val (v := (.pointer (some ⟨sc, 0, none⟩))) (x_move (v := (.pointer (some ⟨sc, 0, none⟩))) rfl) rfl (by decide) rfl ?_
  refine lE_val (v := (.slice (some ⟨bf, st, none⟩) (dropCRl (xs.take j)).length (L - st))) (x_move (v := (.slice (some ⟨bf, st, none⟩) (dropCRl (xs.take j)).length (L - st))) rfl) rfl (by decide) rfl ?_
  refine lE_val (v := (.pointer (some ⟨sc, 0, none⟩))) (x_nil rfl) rfl (by decide) rfl ?_
  refine lE_val (v := (.pointer (some ⟨sc, 3, none⟩))) (x_fld (i := 3) (by decide) rfl) rfl (by decide) rfl ?_
  refine lE_skip (x_storeB (v := (.slice (some ⟨bf, st, none⟩) (dropCRl (xs.take j)).length (L - st))) (Tryf.sizeOf65 _) rfl rfl rfl hB3 rfl) rfl rfl ?_
  refine lE_nil ?_
  have hB4 : Blk ((w.drew.drew.drew.setCell ⟨sc, 5, none⟩ (.int .i64 (st + (j + 1) : Nat))).setCell ⟨sc, 3, none⟩ (.slice (some ⟨bf, st, none⟩) (dropCRl (xs.take j)).length (L - st))) sc (scC rd (.slice (some ⟨bf, st, none⟩) (dropCRl (xs.take j)).length (L - st)) (.slice (some ⟨bf, 0, none⟩) L L) (st + (j + 1)) en (.iface te tv) cl) 67 := hB3.setCell 3 _
  refine cE_list ?_
  refine lE_val (v := (.slice (some ⟨bf, st, none⟩) (dropCRl (xs.take j)).length (L - st))) (x_move (v := (.slice (some ⟨bf, st, none⟩) (dropCRl (xs.take j)).length (L - st))) rfl) rfl (by decide) rfl ?_
  refine lE_val (v := (.bool true)) (x_tok rfl rfl) rfl (by decide) rfl ?_
  refine lE_nil ?_
  refine cE_condT rfl ?_
  refine cE_seq ?_
  refine cE_list ?_
  refine lE_val (v := (.pointer (some ⟨sc, 0, none⟩))) (x_move (v := (.pointer (some ⟨sc, 0, none⟩))) rfl) rfl (by decide) rfl ?_
  refine lE_val (v := (.pointer (some ⟨sc, 0, none⟩))) (x_nil rfl) rfl (by decide) rfl ?_
  refine lE_val (v := (.pointer (some ⟨sc, 7, none⟩))) (x_fld (i := 7) (by decide) rfl) rfl (by decide) rfl ?_
  refine lE_val (v := (.iface te tv)) (x_loadB (Tryf.isAgg32 _) rfl hB4 rfl) rfl (by decide) rfl ?_
  refine lE_val (v := (.bool false)) (x_eqnil' rfl rfl) rfl (by decide) rfl ?_
  refine lE_val (v := (.bool false)) (x_move (v := (.bool false)) rfl) rfl (by decide) rfl ?_
  refine lE_gval (v := (.int .i64 (j + 1 : Nat))) (x_move (v := (.int .i64 (j + 1 : Nat))) rfl) rfl (by decide) rfl rfl (by decide) rfl ?_
  refine lE_gval (v := (.bool true)) (by rw [← ha]; exact x_gtr rfl rfl) rfl (by decide) rfl rfl (by decide) rfl ?_
  refine lE_val (v := (.bool true)) (x_pickF (v := (.bool true)) rfl rfl) rfl (by decide) rfl ?_
  refine lE_nil ?_
  refine cE_condT rfl ?_
  refine cE_list_lastT ?_
  refine lE_val (v := (.pointer (some ⟨sc, 0, none⟩))) (x_move (v := (.pointer (some ⟨sc, 0, none⟩))) rfl) rfl (by decide) rfl ?_
  refine lE_val (v := (.pointer (some ⟨sc, 0, none⟩))) (x_nil rfl) rfl (by decide) rfl ?_
  refine lE_val (v := (.pointer (some ⟨sc, 8, none⟩))) (x_fld (i := 8) (by decide) rfl) rfl (by decide) rfl ?_
  refine lE_skip (x_storeB (v := (.int .i64 0)) (Tryf.sizeOf3 _) rfl rfl rfl hB4 rfl) rfl rfl ?_
  refine lE_nil ?_
  have hB5 : Blk (((w.drew.drew.drew.setCell ⟨sc, 5, none⟩ (.int .i64 (st + (j + 1) : Nat))).setCell ⟨sc, 3, none⟩ (.slice (some ⟨bf, st, none⟩) (dropCRl (xs.take j)).length (L - st))).setCell ⟨sc, 8, none⟩ (.int .i64 0)) sc (scC rd (.slice (some ⟨bf, st, none⟩) (dropCRl (xs.take j)).length (L - st)) (.slice (some ⟨bf, 0, none⟩) L L) (st + (j + 1)) en (.iface te tv) cl) 67 := hB4.setCell 8 _
  refine cE_list ?_
  refine lE_val (v := (.bool true)) (x_assign (v := (.bool true)) rfl) rfl (by decide) rfl ?_
  refine lE_nil ?_
  refine cE_ret ?_
  refine hQ _ _ rfl hB5 ?_
  exact (((Keep.refl (fun k => k = sc) w).drew.drew.drew.st _ _).st _ _).st _ _

theorem seg1_last {c : Code} (h : findCond 33 (Tryf.f26.body.getD .skip) = some c) {Q : Exit → Env → World → Prop} {E : Env} {w : World} {sc : Nat} {rd tok : Value} {cl : Bool} (hE : E 0 = .pointer (some ⟨sc, 0, none⟩)) {te : TypeId} {tv : Value} {bf L st en : Nat} (hB : Blk w sc (scC rd tok (.slice (some ⟨bf, 0, none⟩) L L) st en (.iface te tv) cl) 67)
    (hlt : st < en) (hen : en ≤ L) (hL : L ≤ 1000000) {xs : List UInt8} (hn : xs.length = en - st) (hx : Bytes w bf st xs) (hj : Lib.indexByte xs 10 = -1)
    (hQ : ∀ E' w', E' 2 = .bool true → Blk w' sc (scC rd (.slice (some ⟨bf, st, none⟩) (dropCRl xs).length (L - st)) (.slice (some ⟨bf, 0, none⟩) L L) (st + (en - st)) en (.iface te tv) cl) 67 → Keep (fun k => k = sc) w w' → Q .ret E' w') : cE Tryf.prog 334 c Q E w := by
  cases h
  rw [upd_self hE]
  have hd : decide (((st : Nat) : Int) < ((en : Nat) : Int)) = true := by simp; omega
  have hx2 : Bytes w.drew.drew bf st xs := hx
  have ha : decide ((0 : Int) < ((en - st : Nat) : Int)) = true := by simp; omega
  have hB1 : Blk w.drew sc (scC rd tok (.slice (some ⟨bf, 0, none⟩) L L) st en (.iface te tv) cl) 67 := hB
  refine cE_still (by kernel_rfl) (by kernel_rfl) ?_
  refine sE_val (v := (.pointer (some ⟨sc, 0, none⟩))) (x_move (v := (.pointer (some ⟨sc, 0, none⟩))) rfl) rfl (by decide) rfl ?_
  refine sE_val (v := (.pointer (some ⟨sc, 0, none⟩))) (x_nil rfl) rfl (by decide) rfl ?_
  refine sE_val (v := (.pointer (some ⟨sc, 6, none⟩))) (x_fld (i := 6) (by decide) rfl) rfl (by decide) rfl ?_
  refine sE_val (v := (.int .i64 (en : Nat))) (x_loadB (Tryf.isAgg3 _) rfl hB1 rfl) rfl (by decide) rfl ?_
  refine sE_val (v := (.pointer (some ⟨sc, 0, none⟩))) (x_move (v := (.pointer (some ⟨sc, 0, none⟩))) rfl) rfl (by decide) rfl ?_
  refine sE_val (v := (.pointer (some ⟨sc, 0, none⟩))) (x_nil rfl) rfl (by decide) rfl ?_
  refine sE_val (v := (.pointer (some ⟨sc, 5, none⟩))) (x_fld (i := 5) (by decide) rfl) rfl (by decide) rfl ?_
  refine sE_val (v := (.int .i64 (st : Nat))) (x_loadB (Tryf.isAgg3 _) rfl hB1 rfl) rfl (by decide) rfl ?_
  refine sE_val (v := (.bool true)) (by rw [← hd]; exact x_gtr rfl rfl) rfl (by decide) rfl ?_
  refine sE_val (v := (.bool true)) (x_move (v := (.bool true)) rfl) rfl (by decide) rfl ?_
  refine sE_gskip rfl (by decide) rfl rfl (by decide) (.inl rfl) ?_
  refine sE_gskip rfl (by decide) rfl rfl (by decide) (.inl rfl) ?_
  refine sE_gskip rfl (by decide) rfl rfl (by decide) (.inl rfl) ?_
  refine sE_gskip rfl (by decide) rfl rfl (by decide) (.inl rfl) ?_
  refine sE_gskip rfl (by decide) rfl rfl (by decide) (.inl rfl) ?_
  refine sE_val (v := (.bool true)) (x_pickT (v := (.bool true)) rfl rfl) rfl (by decide) rfl ?_
  refine sE_nil ?_
  refine cE_condT rfl ?_
  have hB2 : Blk w.drew.drew sc (scC rd tok (.slice (some ⟨bf, 0, none⟩) L L) st en (.iface te tv) cl) 67 := hB1
  refine cE_still (by kernel_rfl) (by kernel_rfl) ?_
  refine sE_val (v := (.pointer (some ⟨sc, 0, none⟩))) (x_move (v := (.pointer (some ⟨sc, 0, none⟩))) rfl) rfl (by decide) rfl ?_
  refine sE_val (v := (.pointer (some ⟨sc, 0, none⟩))) (x_nil rfl) rfl (by decide) rfl ?_
  refine sE_val (v := (.pointer (some ⟨sc, 1, none⟩))) (x_fld (i := 1) (by decide) rfl) rfl (by decide) rfl ?_
  refine sE_val (v := (.func (.func 39) #[] #[])) (x_loadB (Tryf.isAgg64 _) rfl hB2 rfl) rfl (by decide) rfl ?_
  refine sE_val (v := (.pointer (some ⟨sc, 0, none⟩))) (x_move (v := (.pointer (some ⟨sc, 0, none⟩))) rfl) rfl (by decide) rfl ?_
  refine sE_val (v := (.pointer (some ⟨sc, 0, none⟩))) (x_nil rfl) rfl (by decide) rfl ?_
  refine sE_val (v := (.pointer (some ⟨sc, 4, none⟩))) (x_fld (i := 4) (by decide) rfl) rfl (by decide) rfl ?_
  refine sE_val (v := (.slice (some ⟨bf, 0, none⟩) L L)) (x_loadB (Tryf.isAgg65 _) rfl hB2 rfl) rfl (by decide) rfl ?_
  refine sE_val (v := (.pointer (some ⟨sc, 0, none⟩))) (x_move (v := (.pointer (some ⟨sc, 0, none⟩))) rfl) rfl (by decide) rfl ?_
  refine sE_val (v := (.pointer (some ⟨sc, 0, none⟩))) (x_nil rfl) rfl (by decide) rfl ?_
  refine sE_val (v := (.pointer (some ⟨sc, 5, none⟩))) (x_fld (i := 5) (by decide) rfl) rfl (by decide) rfl ?_
  refine sE_val (v := (.int .i64 (st : Nat))) (x_loadB (Tryf.isAgg3 _) rfl hB2 rfl) rfl (by decide) rfl ?_
  refine sE_val (v := (.pointer (some ⟨sc, 0, none⟩))) (x_move (v := (.pointer (some ⟨sc, 0, none⟩))) rfl) rfl (by decide) rfl ?_
  refine sE_val (v := (.pointer (some ⟨sc, 0, none⟩))) (x_nil rfl) rfl (by decide) rfl ?_
  refine sE_val (v := (.pointer (some ⟨sc, 6, none⟩))) (x_fld (i := 6) (by decide) rfl) rfl (by decide) rfl ?_
  refine sE_val (v := (.int .i64 (en : Nat))) (x_loadB (Tryf.isAgg3 _) rfl hB2 rfl) rfl (by decide) rfl ?_
  refine sE_val (v := (.slice (some ⟨bf, st, none⟩) (en - st) (L - st))) (x_slice00 rfl rfl rfl (by omega) (by omega) (by omega)) rfl (by decide) rfl ?_
  refine sE_val (v := (.pointer (some ⟨sc, 0, none⟩))) (x_move (v := (.pointer (some ⟨sc, 0, none⟩))) rfl) rfl (by decide) rfl ?_
  refine sE_val (v := (.pointer (some ⟨sc, 0, none⟩))) (x_nil rfl) rfl (by decide) rfl ?_
  refine sE_val (v := (.pointer (some ⟨sc, 7, none⟩))) (x_fld (i := 7) (by decide) rfl) rfl (by decide) rfl ?_
  refine sE_val (v := (.iface te tv)) (x_loadB (Tryf.isAgg32 _) rfl hB2 rfl) rfl (by decide) rfl ?_
  refine sE_val (v := (.bool true)) (x_neqnil' rfl rfl) rfl (by decide) rfl ?_
  refine sE_call (v := (.tuple #[(.int .i64 (en - st : Nat)), (.slice (some ⟨bf, st, none⟩) (dropCRl xs).length (L - st)), .nilIface])) (x_callv2n Tryf.func39 (by kernel_rfl) (by kernel_rfl) rfl rfl rfl) rfl (by decide) rfl (scanLines_last (c := L - st) hn (by omega) (by omega) hx2 (by omega) hj) ?_
  refine sE_val (v := (.tuple #[(.int .i64 (en - st : Nat)), (.slice (some ⟨bf, st, none⟩) (dropCRl xs).length (L - st)), .nilIface])) (x_move (v := (.tuple #[(.int .i64 (en - st : Nat)), (.slice (some ⟨bf, st, none⟩) (dropCRl xs).length (L - st)), .nilIface])) rfl) rfl (by decide) rfl ?_
  refine sE_val (v := (.int .i64 (en - st : Nat))) (x_ext (v := (.int .i64 (en - st : Nat))) rfl rfl) rfl (by decide) rfl ?_
  refine sE_val (v := (.slice (some ⟨bf, st, none⟩) (dropCRl xs).length (L - st))) (x_ext (v := (.slice (some ⟨bf, st, none⟩) (dropCRl xs).length (L - st))) rfl rfl) rfl (by decide) rfl ?_
  refine sE_val (v := .nilIface) (x_ext (v := .nilIface) rfl rfl) rfl (by decide) rfl ?_
  refine sE_val (v := (.int .i64 (en - st : Nat))) (x_assign (v := (.int .i64 (en - st : Nat))) rfl) rfl (by decide) rfl ?_
  refine sE_val (v := (.slice (some ⟨bf, st, none⟩) (dropCRl xs).length (L - st))) (x_assign (v := (.slice (some ⟨bf, st, none⟩) (dropCRl xs).length (L - st))) rfl) rfl (by decide) rfl ?_
  refine sE_val (v := .nilIface) (x_assign (v := .nilIface) rfl) rfl (by decide) rfl ?_
  refine sE_nil ?_
  refine cE_seq ?_
  refine cE_list ?_
  refine lE_val (v := .nilIface) (x_move (v := .nilIface) rfl) rfl (by decide) rfl ?_
  refine lE_val (v := (.bool false)) (x_neqnil rfl rfl) rfl (by decide) rfl ?_
  refine lE_nil ?_
  refine cE_condF rfl (cE_skipT ?_)
  refine cE_seq ?_
  refine cE_list ?_
  refine lE_val (v := (.pointer (some ⟨sc, 0, none⟩))) (x_move (v := (.pointer (some ⟨sc, 0, none⟩))) rfl) rfl (by decide) rfl ?_
  refine lE_val (v := (.int .i64 (en - st : Nat))) (x_move (v := (.int .i64 (en - st : Nat))) rfl) rfl (by decide) rfl ?_
  refine lE_call (x_call2 Tryf.func35 (by kernel_rfl) (by kernel_rfl) rfl rfl rfl) rfl (by decide) rfl ?_
  refine Calls.mono (advance_calls hB2 (en - st) (by omega) (by omega)) ?_
  intro r w1 hr; obtain ⟨hr1, hr2⟩ := hr; rw [hr1, hr2]; refine ⟨_, rfl, ?_⟩
  refine lE_val (v := (.bool false)) (x_not (b := true) rfl) rfl (by decide) rfl ?_
  refine lE_nil ?_
  have hB3 : Blk (w.drew.drew.drew.setCell ⟨sc, 5, none⟩ (.int .i64 (st + (en - st) : Nat))) sc (scC rd tok (.slice (some ⟨bf, 0, none⟩) L L) (st + (en - st)) en (.iface te tv) cl) 67 := Blk.setCell (w := w.drew.drew.drew) hB2 5 _
  refine cE_condF rfl (cE_skipT ?_)
  refine cE_list ?_
  refine lE_val (v := (.pointer (some ⟨sc, 0, none⟩))) (x_move (v := (.pointer (some ⟨sc, 0, none⟩))) rfl) rfl (by decide) rfl ?_
  refine lE_val (v := (.slice (some ⟨bf, st, none⟩) (dropCRl xs).length (L - st))) (x_move (v := (.slice (some ⟨bf, st, none⟩) (dropCRl xs).length (L - st))) rfl) rfl (by decide) rfl ?_
  refine lE_val (v := (.pointer (some ⟨sc, 0, none⟩))) (x_nil rfl) rfl (by decide) rfl ?_
  refine lE_val (v := (.pointer (some ⟨sc, 3, none⟩))) (x_fld (i := 3) (by decide) rfl) rfl (by decide) rfl ?_
  refine lE_skip (x_storeB (v := (.slice (some ⟨bf, st, none⟩) (dropCRl xs).length (L - st))) (Tryf.sizeOf65 _) rfl rfl rfl hB3 rfl) rfl rfl ?_
  refine lE_nil ?_
  have hB4 : Blk ((w.drew.drew.drew.setCell ⟨sc, 5, none⟩ (.int .i64 (st + (en - st) : Nat))).setCell ⟨sc, 3, none⟩ (.slice (some ⟨bf, st, none⟩) (dropCRl xs).length (L - st))) sc (scC rd (.slice (some ⟨bf, st, none⟩) (dropCRl xs).length (L - st)) (.slice (some ⟨bf, 0, none⟩) L L) (st + (en - st)) en (.iface te tv) cl) 67 := hB3.setCell 3 _
  refine cE_list ?_
  refine lE_val (v := (.slice (some ⟨bf, st, none⟩) (dropCRl xs).length (L - st))) (x_move (v := (.slice (some ⟨bf, st, none⟩) (dropCRl xs).length (L - st))) rfl) rfl (by decide) rfl ?_
  refine lE_val (v := (.bool true)) (x_tok rfl rfl) rfl (by decide) rfl ?_
  refine lE_nil ?_
  refine cE_condT rfl ?_
  refine cE_seq ?_
  refine cE_list ?_
  refine lE_val (v := (.pointer (some ⟨sc, 0, none⟩))) (x_move (v := (.pointer (some ⟨sc, 0, none⟩))) rfl) rfl (by decide) rfl ?_
  refine lE_val (v := (.pointer (some ⟨sc, 0, none⟩))) (x_nil rfl) rfl (by decide) rfl ?_
  refine lE_val (v := (.pointer (some ⟨sc, 7, none⟩))) (x_fld (i := 7) (by decide) rfl) rfl (by decide) rfl ?_
  refine lE_val (v := (.iface te tv)) (x_loadB (Tryf.isAgg32 _) rfl hB4 rfl) rfl (by decide) rfl ?_
  refine lE_val (v := (.bool false)) (x_eqnil' rfl rfl) rfl (by decide) rfl ?_
  refine lE_val (v := (.bool false)) (x_move (v := (.bool false)) rfl) rfl (by decide) rfl ?_
  refine lE_gval (v := (.int .i64 (en - st : Nat))) (x_move (v := (.int .i64 (en - st : Nat))) rfl) rfl (by decide) rfl rfl (by decide) rfl ?_
  refine lE_gval (v := (.bool true)) (by rw [← ha]; exact x_gtr rfl rfl) rfl (by decide) rfl rfl (by decide) rfl ?_
  refine lE_val (v := (.bool true)) (x_pickF (v := (.bool true)) rfl rfl) rfl (by decide) rfl ?_
  refine lE_nil ?_
  refine cE_condT rfl ?_
  refine cE_list_lastT ?_
  refine lE_val (v := (.pointer (some ⟨sc, 0, none⟩))) (x_move (v := (.pointer (some ⟨sc, 0, none⟩))) rfl) rfl (by decide) rfl ?_
  refine lE_val (v := (.pointer (some ⟨sc, 0, none⟩))) (x_nil rfl) rfl (by decide) rfl ?_
  refine lE_val (v := (.pointer (some ⟨sc, 8, none⟩))) (x_fld (i := 8) (by decide) rfl) rfl (by decide) rfl ?_
  refine lE_skip (x_storeB (v := (.int .i64 0)) (Tryf.sizeOf3 _) rfl rfl rfl hB4 rfl) rfl rfl ?_
  refine lE_nil ?_
  have hB5 : Blk (((w.drew.drew.drew.setCell ⟨sc, 5, none⟩ (.int .i64 (st + (en - st) : Nat))).setCell ⟨sc, 3, none⟩ (.slice (some ⟨bf, st, none⟩) (dropCRl xs).length (L - st))).setCell ⟨sc, 8, none⟩ (.int .i64 0)) sc (scC rd (.slice (some ⟨bf, st, none⟩) (dropCRl xs).length (L - st)) (.slice (some ⟨bf, 0, none⟩) L L) (st + (en - st)) en (.iface te tv) cl) 67 := hB4.setCell 8 _
  refine cE_list ?_
  refine lE_val (v := (.bool true)) (x_assign (v := (.bool true)) rfl) rfl (by decide) rfl ?_
  refine lE_nil ?_
  refine cE_ret ?_
  refine hQ _ _ rfl hB5 ?_
  exact (((Keep.refl (fun k => k = sc) w).drew.drew.drew.st _ _).st _ _).st _ _

theorem seg1_more {c : Code} (h : findCond 33 (Tryf.f26.body.getD .skip) = some c) {Q : Exit → Env → World → Prop} {E : Env} {w : World} {sc : Nat} {rd tok : Value} {cl : Bool} (hE : E 0 = .pointer (some ⟨sc, 0, none⟩)) {bf L st en : Nat} (hB : Blk w sc (scC rd tok (.slice (some ⟨bf, 0, none⟩) L L) st en .nilIface cl) 67)
    (hlt : st < en) (hen : en ≤ L) (hL : L ≤ 1000000) {xs : List UInt8} (hn : xs.length = en - st) (hx : Bytes w bf st xs) (hj : Lib.indexByte xs 10 = -1)
    (hQ : ∀ E' w', E' 0 = .pointer (some ⟨sc, 0, none⟩) → Blk w' sc (scC rd (.slice none 0 0) (.slice (some ⟨bf, 0, none⟩) L L) st en .nilIface cl) 67 → Keep (fun k => k = sc) w w' → Q .normal E' w') : cE Tryf.prog 334 c Q E w := by
  cases h
  rw [upd_self hE]
  have hd : decide (((st : Nat) : Int) < ((en : Nat) : Int)) = true := by simp; omega
  have hx2 : Bytes w.drew.drew bf st xs := hx
  have hB1 : Blk w.drew sc (scC rd tok (.slice (some ⟨bf, 0, none⟩) L L) st en .nilIface cl) 67 := hB
  refine cE_still (by kernel_rfl) (by kernel_rfl) ?_
  refine sE_val (v := (.pointer (some ⟨sc, 0, none⟩))) (x_move (v := (.pointer (some ⟨sc, 0, none⟩))) rfl) rfl (by decide) rfl ?_
  refine sE_val (v := (.pointer (some ⟨sc, 0, none⟩))) (x_nil rfl) rfl (by decide) rfl ?_
  refine sE_val (v := (.pointer (some ⟨sc, 6, none⟩))) (x_fld (i := 6) (by decide) rfl) rfl (by decide) rfl ?_
  refine sE_val (v := (.int .i64 (en : Nat))) (x_loadB (Tryf.isAgg3 _) rfl hB1 rfl) rfl (by decide) rfl ?_
  refine sE_val (v := (.pointer (some ⟨sc, 0, none⟩))) (x_move (v := (.pointer (some ⟨sc, 0, none⟩))) rfl) rfl (by decide) rfl ?_
  refine sE_val (v := (.pointer (some ⟨sc, 0, none⟩))) (x_nil rfl) rfl (by decide) rfl ?_
  refine sE_val (v := (.pointer (some ⟨sc, 5, none⟩))) (x_fld (i := 5) (by decide) rfl) rfl (by decide) rfl ?_
  refine sE_val (v := (.int .i64 (st : Nat))) (x_loadB (Tryf.isAgg3 _) rfl hB1 rfl) rfl (by decide) rfl ?_
  refine sE_val (v := (.bool true)) (by rw [← hd]; exact x_gtr rfl rfl) rfl (by decide) rfl ?_
  refine sE_val (v := (.bool true)) (x_move (v := (.bool true)) rfl) rfl (by decide) rfl ?_
  refine sE_gskip rfl (by decide) rfl rfl (by decide) (.inl rfl) ?_
  refine sE_gskip rfl (by decide) rfl rfl (by decide) (.inl rfl) ?_
  refine sE_gskip rfl (by decide) rfl rfl (by decide) (.inl rfl) ?_
  refine sE_gskip rfl (by decide) rfl rfl (by decide) (.inl rfl) ?_
  refine sE_gskip rfl (by decide) rfl rfl (by decide) (.inl rfl) ?_
  refine sE_val (v := (.bool true)) (x_pickT (v := (.bool true)) rfl rfl) rfl (by decide) rfl ?_
  refine sE_nil ?_
  refine cE_condT rfl ?_
  have hB2 : Blk w.drew.drew sc (scC rd tok (.slice (some ⟨bf, 0, none⟩) L L) st en .nilIface cl) 67 := hB1
  refine cE_still (by kernel_rfl) (by kernel_rfl) ?_
  refine sE_val (v := (.pointer (some ⟨sc, 0, none⟩))) (x_move (v := (.pointer (some ⟨sc, 0, none⟩))) rfl) rfl (by decide) rfl ?_
  refine sE_val (v := (.pointer (some ⟨sc, 0, none⟩))) (x_nil rfl) rfl (by decide) rfl ?_
  refine sE_val (v := (.pointer (some ⟨sc, 1, none⟩))) (x_fld (i := 1) (by decide) rfl) rfl (by decide) rfl ?_
  refine sE_val (v := (.func (.func 39) #[] #[])) (x_loadB (Tryf.isAgg64 _) rfl hB2 rfl) rfl (by decide) rfl ?_
  refine sE_val (v := (.pointer (some ⟨sc, 0, none⟩))) (x_move (v := (.pointer (some ⟨sc, 0, none⟩))) rfl) rfl (by decide) rfl ?_
  refine sE_val (v := (.pointer (some ⟨sc, 0, none⟩))) (x_nil rfl) rfl (by decide) rfl ?_
  refine sE_val (v := (.pointer (some ⟨sc, 4, none⟩))) (x_fld (i := 4) (by decide) rfl) rfl (by decide) rfl ?_
  refine sE_val (v := (.slice (some ⟨bf, 0, none⟩) L L)) (x_loadB (Tryf.isAgg65 _) rfl hB2 rfl) rfl (by decide) rfl ?_
  refine sE_val (v := (.pointer (some ⟨sc, 0, none⟩))) (x_move (v := (.pointer (some ⟨sc, 0, none⟩))) rfl) rfl (by decide) rfl ?_
  refine sE_val (v := (.pointer (some ⟨sc, 0, none⟩))) (x_nil rfl) rfl (by decide) rfl ?_
  refine sE_val (v := (.pointer (some ⟨sc, 5, none⟩))) (x_fld (i := 5) (by decide) rfl) rfl (by decide) rfl ?_
  refine sE_val (v := (.int .i64 (st : Nat))) (x_loadB (Tryf.isAgg3 _) rfl hB2 rfl) rfl (by decide) rfl ?_
  refine sE_val (v := (.pointer (some ⟨sc, 0, none⟩))) (x_move (v := (.pointer (some ⟨sc, 0, none⟩))) rfl) rfl (by decide) rfl ?_
  refine sE_val (v := (.pointer (some ⟨sc, 0, none⟩))) (x_nil rfl) rfl (by decide) rfl ?_
  refine sE_val (v := (.pointer (some ⟨sc, 6, none⟩))) (x_fld (i := 6) (by decide) rfl) rfl (by decide) rfl ?_
  refine sE_val (v := (.int .i64 (en : Nat))) (x_loadB (Tryf.isAgg3 _) rfl hB2 rfl) rfl (by decide) rfl ?_
  refine sE_val (v := (.slice (some ⟨bf, st, none⟩) (en - st) (L - st))) (x_slice00 rfl rfl rfl (by omega) (by omega) (by omega)) rfl (by decide) rfl ?_
  refine sE_val (v := (.pointer (some ⟨sc, 0, none⟩))) (x_move (v := (.pointer (some ⟨sc, 0, none⟩))) rfl) rfl (by decide) rfl ?_
  refine sE_val (v := (.pointer (some ⟨sc, 0, none⟩))) (x_nil rfl) rfl (by decide) rfl ?_
  refine sE_val (v := (.pointer (some ⟨sc, 7, none⟩))) (x_fld (i := 7) (by decide) rfl) rfl (by decide) rfl ?_
  refine sE_val (v := .nilIface) (x_loadB (Tryf.isAgg32 _) rfl hB2 rfl) rfl (by decide) rfl ?_
  refine sE_val (v := (.bool false)) (x_neqnil rfl rfl) rfl (by decide) rfl ?_
  refine sE_call (v := (.tuple #[(.int .i64 0), (.slice none 0 0), .nilIface])) (x_callv2n Tryf.func39 (by kernel_rfl) (by kernel_rfl) rfl rfl rfl) rfl (by decide) rfl (scanLines_more (c := L - st) hn hx2 hj) ?_
  refine sE_val (v := (.tuple #[(.int .i64 0), (.slice none 0 0), .nilIface])) (x_move (v := (.tuple #[(.int .i64 0), (.slice none 0 0), .nilIface])) rfl) rfl (by decide) rfl ?_
  refine sE_val (v := (.int .i64 0)) (x_ext (v := (.int .i64 0)) rfl rfl) rfl (by decide) rfl ?_
  refine sE_val (v := (.slice none 0 0)) (x_ext (v := (.slice none 0 0)) rfl rfl) rfl (by decide) rfl ?_
  refine sE_val (v := .nilIface) (x_ext (v := .nilIface) rfl rfl) rfl (by decide) rfl ?_
  refine sE_val (v := (.int .i64 0)) (x_assign (v := (.int .i64 0)) rfl) rfl (by decide) rfl ?_
  refine sE_val (v := (.slice none 0 0)) (x_assign (v := (.slice none 0 0)) rfl) rfl (by decide) rfl ?_
  refine sE_val (v := .nilIface) (x_assign (v := .nilIface) rfl) rfl (by decide) rfl ?_
  refine sE_nil ?_
  refine cE_seq ?_
  refine cE_list ?_
  refine lE_val (v := .nilIface) (x_move (v := .nilIface) rfl) rfl (by decide) rfl ?_
  refine lE_val (v := (.bool false)) (x_neqnil rfl rfl) rfl (by decide) rfl ?_
  refine lE_nil ?_
  refine cE_condF rfl (cE_skipT ?_)
  refine cE_seq ?_
  refine cE_list ?_
  refine lE_val (v := (.pointer (some ⟨sc, 0, none⟩))) (x_move (v := (.pointer (some ⟨sc, 0, none⟩))) rfl) rfl (by decide) rfl ?_
  refine lE_val (v := (.int .i64 0)) (x_move (v := (.int .i64 0)) rfl) rfl (by decide) rfl ?_
  refine lE_call (x_call2 Tryf.func35 (by kernel_rfl) (by kernel_rfl) rfl rfl rfl) rfl (by decide) rfl ?_
  refine Calls.mono (advance_calls hB2 0 (by omega) (by omega)) ?_
  intro r w1 hr; obtain ⟨hr1, hr2⟩ := hr; rw [hr1, hr2]; refine ⟨_, rfl, ?_⟩
  refine lE_val (v := (.bool false)) (x_not (b := true) rfl) rfl (by decide) rfl ?_
  refine lE_nil ?_
  have hB3 : Blk (w.drew.drew.drew.setCell ⟨sc, 5, none⟩ (.int .i64 (st + 0 : Nat))) sc (scC rd tok (.slice (some ⟨bf, 0, none⟩) L L) (st + 0) en .nilIface cl) 67 := Blk.setCell (w := w.drew.drew.drew) hB2 5 _
  refine cE_condF rfl (cE_skipT ?_)
  refine cE_list ?_
  refine lE_val (v := (.pointer (some ⟨sc, 0, none⟩))) (x_move (v := (.pointer (some ⟨sc, 0, none⟩))) rfl) rfl (by decide) rfl ?_
  refine lE_val (v := (.slice none 0 0)) (x_move (v := (.slice none 0 0)) rfl) rfl (by decide) rfl ?_
  refine lE_val (v := (.pointer (some ⟨sc, 0, none⟩))) (x_nil rfl) rfl (by decide) rfl ?_
  refine lE_val (v := (.pointer (some ⟨sc, 3, none⟩))) (x_fld (i := 3) (by decide) rfl) rfl (by decide) rfl ?_
  refine lE_skip (x_storeB (v := (.slice none 0 0)) (Tryf.sizeOf65 _) rfl rfl rfl hB3 rfl) rfl rfl ?_
  refine lE_nil ?_
  have hB4 : Blk ((w.drew.drew.drew.setCell ⟨sc, 5, none⟩ (.int .i64 (st + 0 : Nat))).setCell ⟨sc, 3, none⟩ (.slice none 0 0)) sc (scC rd (.slice none 0 0) (.slice (some ⟨bf, 0, none⟩) L L) (st + 0) en .nilIface cl) 67 := hB3.setCell 3 _
  refine cE_list ?_
  refine lE_val (v := (.slice none 0 0)) (x_move (v := (.slice none 0 0)) rfl) rfl (by decide) rfl ?_
  refine lE_val (v := (.bool false)) (x_toknil rfl rfl) rfl (by decide) rfl ?_
  refine lE_nil ?_
  refine cE_condF rfl (cE_skipN ?_)
  refine hQ _ _ rfl hB4 ?_
  exact ((Keep.refl (fun k => k = sc) w).drew.drew.drew.st _ _).st _ _

theorem seg1_end {c : Code} (h : findCond 33 (Tryf.f26.body.getD .skip) = some c) {Q : Exit → Env → World → Prop} {E : Env} {w : World} {sc : Nat} {rd tok : Value} {cl : Bool} (hE : E 0 = .pointer (some ⟨sc, 0, none⟩)) {te : TypeId} {tv : Value} {bf L st : Nat} (hB : Blk w sc (scC rd tok (.slice (some ⟨bf, 0, none⟩) L L) st st (.iface te tv) cl) 67)
    (hen : st ≤ L) (hL : L ≤ 1000000)
    (hQ : ∀ E' w', E' 0 = .pointer (some ⟨sc, 0, none⟩) → Blk w' sc (scC rd (.slice none 0 0) (.slice (some ⟨bf, 0, none⟩) L L) st st (.iface te tv) cl) 67 → Keep (fun k => k = sc) w w' → Q .normal E' w') : cE Tryf.prog 334 c Q E w := by
  cases h
  rw [upd_self hE]
  have hd : decide (((st : Nat) : Int) < ((st : Nat) : Int)) = false := by simp
  have hB1 : Blk w.drew sc (scC rd tok (.slice (some ⟨bf, 0, none⟩) L L) st st (.iface te tv) cl) 67 := hB
  refine cE_still (by kernel_rfl) (by kernel_rfl) ?_
  refine sE_val (v := (.pointer (some ⟨sc, 0, none⟩))) (x_move (v := (.pointer (some ⟨sc, 0, none⟩))) rfl) rfl (by decide) rfl ?_
  refine sE_val (v := (.pointer (some ⟨sc, 0, none⟩))) (x_nil rfl) rfl (by decide) rfl ?_
  refine sE_val (v := (.pointer (some ⟨sc, 6, none⟩))) (x_fld (i := 6) (by decide) rfl) rfl (by decide) rfl ?_
  refine sE_val (v := (.int .i64 (st : Nat))) (x_loadB (Tryf.isAgg3 _) rfl hB1 rfl) rfl (by decide) rfl ?_
  refine sE_val (v := (.pointer (some ⟨sc, 0, none⟩))) (x_move (v := (.pointer (some ⟨sc, 0, none⟩))) rfl) rfl (by decide) rfl ?_
  refine sE_val (v := (.pointer (some ⟨sc, 0, none⟩))) (x_nil rfl) rfl (by decide) rfl ?_
  refine sE_val (v := (.pointer (some ⟨sc, 5, none⟩))) (x_fld (i := 5) (by decide) rfl) rfl (by decide) rfl ?_
  refine sE_val (v := (.int .i64 (st : Nat))) (x_loadB (Tryf.isAgg3 _) rfl hB1 rfl) rfl (by decide) rfl ?_
  refine sE_val (v := (.bool false)) (by rw [← hd]; exact x_gtr rfl rfl) rfl (by decide) rfl ?_
  refine sE_val (v := (.bool false)) (x_move (v := (.bool false)) rfl) rfl (by decide) rfl ?_
  refine sE_gval (v := (.pointer (some ⟨sc, 0, none⟩))) (x_move (v := (.pointer (some ⟨sc, 0, none⟩))) rfl) rfl (by decide) rfl rfl (by decide) rfl ?_
  refine sE_gval (v := (.pointer (some ⟨sc, 0, none⟩))) (x_nil rfl) rfl (by decide) rfl rfl (by decide) rfl ?_
  refine sE_gval (v := (.pointer (some ⟨sc, 7, none⟩))) (x_fld (i := 7) (by decide) rfl) rfl (by decide) rfl rfl (by decide) rfl ?_
  refine sE_gval (v := (.iface te tv)) (x_loadB (Tryf.isAgg32 _) rfl hB1 rfl) rfl (by decide) rfl rfl (by decide) rfl ?_
  refine sE_gval (v := (.bool true)) (x_neqnil' rfl rfl) rfl (by decide) rfl rfl (by decide) rfl ?_
  refine sE_val (v := (.bool true)) (x_pickF (v := (.bool true)) rfl rfl) rfl (by decide) rfl ?_
  refine sE_nil ?_
  refine cE_condT rfl ?_
  have hB2 : Blk w.drew.drew sc (scC rd tok (.slice (some ⟨bf, 0, none⟩) L L) st st (.iface te tv) cl) 67 := hB1
  refine cE_still (by kernel_rfl) (by kernel_rfl) ?_
  refine sE_val (v := (.pointer (some ⟨sc, 0, none⟩))) (x_move (v := (.pointer (some ⟨sc, 0, none⟩))) rfl) rfl (by decide) rfl ?_
  refine sE_val (v := (.pointer (some ⟨sc, 0, none⟩))) (x_nil rfl) rfl (by decide) rfl ?_
  refine sE_val (v := (.pointer (some ⟨sc, 1, none⟩))) (x_fld (i := 1) (by decide) rfl) rfl (by decide) rfl ?_
  refine sE_val (v := (.func (.func 39) #[] #[])) (x_loadB (Tryf.isAgg64 _) rfl hB2 rfl) rfl (by decide) rfl ?_
  refine sE_val (v := (.pointer (some ⟨sc, 0, none⟩))) (x_move (v := (.pointer (some ⟨sc, 0, none⟩))) rfl) rfl (by decide) rfl ?_
  refine sE_val (v := (.pointer (some ⟨sc, 0, none⟩))) (x_nil rfl) rfl (by decide) rfl ?_
  refine sE_val (v := (.pointer (some ⟨sc, 4, none⟩))) (x_fld (i := 4) (by decide) rfl) rfl (by decide) rfl ?_
  refine sE_val (v := (.slice (some ⟨bf, 0, none⟩) L L)) (x_loadB (Tryf.isAgg65 _) rfl hB2 rfl) rfl (by decide) rfl ?_
  refine sE_val (v := (.pointer (some ⟨sc, 0, none⟩))) (x_move (v := (.pointer (some ⟨sc, 0, none⟩))) rfl) rfl (by decide) rfl ?_
  refine sE_val (v := (.pointer (some ⟨sc, 0, none⟩))) (x_nil rfl) rfl (by decide) rfl ?_
  refine sE_val (v := (.pointer (some ⟨sc, 5, none⟩))) (x_fld (i := 5) (by decide) rfl) rfl (by decide) rfl ?_
  refine sE_val (v := (.int .i64 (st : Nat))) (x_loadB (Tryf.isAgg3 _) rfl hB2 rfl) rfl (by decide) rfl ?_
  refine sE_val (v := (.pointer (some ⟨sc, 0, none⟩))) (x_move (v := (.pointer (some ⟨sc, 0, none⟩))) rfl) rfl (by decide) rfl ?_
  refine sE_val (v := (.pointer (some ⟨sc, 0, none⟩))) (x_nil rfl) rfl (by decide) rfl ?_
  refine sE_val (v := (.pointer (some ⟨sc, 6, none⟩))) (x_fld (i := 6) (by decide) rfl) rfl (by decide) rfl ?_
  refine sE_val (v := (.int .i64 (st : Nat))) (x_loadB (Tryf.isAgg3 _) rfl hB2 rfl) rfl (by decide) rfl ?_
  refine sE_val (v := (.slice (some ⟨bf, if L = st then 0 else st, none⟩) 0 (L - st))) (x_sliceE rfl rfl rfl (by omega)) rfl (by decide) rfl ?_
  refine sE_val (v := (.pointer (some ⟨sc, 0, none⟩))) (x_move (v := (.pointer (some ⟨sc, 0, none⟩))) rfl) rfl (by decide) rfl ?_
  refine sE_val (v := (.pointer (some ⟨sc, 0, none⟩))) (x_nil rfl) rfl (by decide) rfl ?_
  refine sE_val (v := (.pointer (some ⟨sc, 7, none⟩))) (x_fld (i := 7) (by decide) rfl) rfl (by decide) rfl ?_
  refine sE_val (v := (.iface te tv)) (x_loadB (Tryf.isAgg32 _) rfl hB2 rfl) rfl (by decide) rfl ?_
  refine sE_val (v := (.bool true)) (x_neqnil' rfl rfl) rfl (by decide) rfl ?_
  refine sE_call (v := (.tuple #[(.int .i64 0), (.slice none 0 0), .nilIface])) (x_callv2n Tryf.func39 (by kernel_rfl) (by kernel_rfl) rfl rfl rfl) rfl (by decide) rfl scanLines_end ?_
  refine sE_val (v := (.tuple #[(.int .i64 0), (.slice none 0 0), .nilIface])) (x_move (v := (.tuple #[(.int .i64 0), (.slice none 0 0), .nilIface])) rfl) rfl (by decide) rfl ?_
  refine sE_val (v := (.int .i64 0)) (x_ext (v := (.int .i64 0)) rfl rfl) rfl (by decide) rfl ?_
  refine sE_val (v := (.slice none 0 0)) (x_ext (v := (.slice none 0 0)) rfl rfl) rfl (by decide) rfl ?_
  refine sE_val (v := .nilIface) (x_ext (v := .nilIface) rfl rfl) rfl (by decide) rfl ?_
  refine sE_val (v := (.int .i64 0)) (x_assign (v := (.int .i64 0)) rfl) rfl (by decide) rfl ?_
  refine sE_val (v := (.slice none 0 0)) (x_assign (v := (.slice none 0 0)) rfl) rfl (by decide) rfl ?_
  refine sE_val (v := .nilIface) (x_assign (v := .nilIface) rfl) rfl (by decide) rfl ?_
  refine sE_nil ?_
  refine cE_seq ?_
  refine cE_list ?_
  refine lE_val (v := .nilIface) (x_move (v := .nilIface) rfl) rfl (by decide) rfl ?_
  refine lE_val (v := (.bool false)) (x_neqnil rfl rfl) rfl (by decide) rfl ?_
  refine lE_nil ?_
  refine cE_condF rfl (cE_skipT ?_)
  refine cE_seq ?_
  refine cE_list ?_
  refine lE_val (v := (.pointer (some ⟨sc, 0, none⟩))) (x_move (v := (.pointer (some ⟨sc, 0, none⟩))) rfl) rfl (by decide) rfl ?_
  refine lE_val (v := (.int .i64 0)) (x_move (v := (.int .i64 0)) rfl) rfl (by decide) rfl ?_
  refine lE_call (x_call2 Tryf.func35 (by kernel_rfl) (by kernel_rfl) rfl rfl rfl) rfl (by decide) rfl ?_
  refine Calls.mono (advance_calls hB2 0 (by omega) (by omega)) ?_
  intro r w1 hr; obtain ⟨hr1, hr2⟩ := hr; rw [hr1, hr2]; refine ⟨_, rfl, ?_⟩
  refine lE_val (v := (.bool false)) (x_not (b := true) rfl) rfl (by decide) rfl ?_
  refine lE_nil ?_
  have hB3 : Blk (w.drew.drew.drew.setCell ⟨sc, 5, none⟩ (.int .i64 (st + 0 : Nat))) sc (scC rd tok (.slice (some ⟨bf, 0, none⟩) L L) (st + 0) st (.iface te tv) cl) 67 := Blk.setCell (w := w.drew.drew.drew) hB2 5 _
  refine cE_condF rfl (cE_skipT ?_)
  refine cE_list ?_
  refine lE_val (v := (.pointer (some ⟨sc, 0, none⟩))) (x_move (v := (.pointer (some ⟨sc, 0, none⟩))) rfl) rfl (by decide) rfl ?_
  refine lE_val (v := (.slice none 0 0)) (x_move (v := (.slice none 0 0)) rfl) rfl (by decide) rfl ?_
  refine lE_val (v := (.pointer (some ⟨sc, 0, none⟩))) (x_nil rfl) rfl (by decide) rfl ?_
  refine lE_val (v := (.pointer (some ⟨sc, 3, none⟩))) (x_fld (i := 3) (by decide) rfl) rfl (by decide) rfl ?_
  refine lE_skip (x_storeB (v := (.slice none 0 0)) (Tryf.sizeOf65 _) rfl rfl rfl hB3 rfl) rfl rfl ?_
  refine lE_nil ?_
  have hB4 : Blk ((w.drew.drew.drew.setCell ⟨sc, 5, none⟩ (.int .i64 (st + 0 : Nat))).setCell ⟨sc, 3, none⟩ (.slice none 0 0)) sc (scC rd (.slice none 0 0) (.slice (some ⟨bf, 0, none⟩) L L) (st + 0) st (.iface te tv) cl) 67 := hB3.setCell 3 _
  refine cE_list ?_
  refine lE_val (v := (.slice none 0 0)) (x_move (v := (.slice none 0 0)) rfl) rfl (by decide) rfl ?_
  refine lE_val (v := (.bool false)) (x_toknil rfl rfl) rfl (by decide) rfl ?_
  refine lE_nil ?_
  refine cE_condF rfl (cE_skipN ?_)
  refine hQ _ _ rfl hB4 ?_
  exact ((Keep.refl (fun k => k = sc) w).drew.drew.drew.st _ _).st _ _

theorem seg1_empty {c : Code} (h : findCond 33 (Tryf.f26.body.getD .skip) = some c) {Q : Exit → Env → World → Prop} {E : Env} {w : World} {sc : Nat} {rd tok : Value} {cl : Bool} (hE : E 0 = .pointer (some ⟨sc, 0, none⟩)) {buf : Value} {st : Nat} (hB : Blk w sc (scC rd tok buf st st .nilIface cl) 67)
    (hQ : ∀ E' w', E' 0 = .pointer (some ⟨sc, 0, none⟩) → Blk w' sc (scC rd tok buf st st .nilIface cl) 67 → Keep (fun k => k = sc) w w' → Q .normal E' w') : cE Tryf.prog 334 c Q E w := by
  cases h
  rw [upd_self hE]
  have hd : decide (((st : Nat) : Int) < ((st : Nat) : Int)) = false := by simp
  have hB1 : Blk w.drew sc (scC rd tok buf st st .nilIface cl) 67 := hB
  refine cE_still (by kernel_rfl) (by kernel_rfl) ?_
  refine sE_val (v := (.pointer (some ⟨sc, 0, none⟩))) (x_move (v := (.pointer (some ⟨sc, 0, none⟩))) rfl) rfl (by decide) rfl ?_
  refine sE_val (v := (.pointer (some ⟨sc, 0, none⟩))) (x_nil rfl) rfl (by decide) rfl ?_
  refine sE_val (v := (.pointer (some ⟨sc, 6, none⟩))) (x_fld (i := 6) (by decide) rfl) rfl (by decide) rfl ?_
  refine sE_val (v := (.int .i64 (st : Nat))) (x_loadB (Tryf.isAgg3 _) rfl hB1 rfl) rfl (by decide) rfl ?_
  refine sE_val (v := (.pointer (some ⟨sc, 0, none⟩))) (x_move (v := (.pointer (some ⟨sc, 0, none⟩))) rfl) rfl (by decide) rfl ?_
  refine sE_val (v := (.pointer (some ⟨sc, 0, none⟩))) (x_nil rfl) rfl (by decide) rfl ?_
  refine sE_val (v := (.pointer (some ⟨sc, 5, none⟩))) (x_fld (i := 5) (by decide) rfl) rfl (by decide) rfl ?_
  refine sE_val (v := (.int .i64 (st : Nat))) (x_loadB (Tryf.isAgg3 _) rfl hB1 rfl) rfl (by decide) rfl ?_
  refine sE_val (v := (.bool false)) (by rw [← hd]; exact x_gtr rfl rfl) rfl (by decide) rfl ?_
  refine sE_val (v := (.bool false)) (x_move (v := (.bool false)) rfl) rfl (by decide) rfl ?_
  refine sE_gval (v := (.pointer (some ⟨sc, 0, none⟩))) (x_move (v := (.pointer (some ⟨sc, 0, none⟩))) rfl) rfl (by decide) rfl rfl (by decide) rfl ?_
  refine sE_gval (v := (.pointer (some ⟨sc, 0, none⟩))) (x_nil rfl) rfl (by decide) rfl rfl (by decide) rfl ?_
  refine sE_gval (v := (.pointer (some ⟨sc, 7, none⟩))) (x_fld (i := 7) (by decide) rfl) rfl (by decide) rfl rfl (by decide) rfl ?_
  refine sE_gval (v := .nilIface) (x_loadB (Tryf.isAgg32 _) rfl hB1 rfl) rfl (by decide) rfl rfl (by decide) rfl ?_
  refine sE_gval (v := (.bool false)) (x_neqnil rfl rfl) rfl (by decide) rfl rfl (by decide) rfl ?_
  refine sE_val (v := (.bool false)) (x_pickF (v := (.bool false)) rfl rfl) rfl (by decide) rfl ?_
  refine sE_nil ?_
  refine cE_condF rfl (cE_skipN ?_)
  exact hQ _ _ rfl hB1 (Keep.refl _ w).drew

theorem seg2_nil {c : Code} (h : findCond 117 (Tryf.f26.body.getD .skip) = some c) {Q : Exit → Env → World → Prop} {E : Env} {w : World} {sc : Nat} {rd tok : Value} {cl : Bool} (hE : E 0 = .pointer (some ⟨sc, 0, none⟩)) {buf : Value} {st en : Nat} (hB : Blk w sc (scC rd tok buf st en .nilIface cl) 67)
    (hQ : ∀ E', E' 0 = .pointer (some ⟨sc, 0, none⟩) → Q .normal E' w) : cE Tryf.prog 334 c Q E w := by
  cases h
  rw [upd_self hE]
  refine cE_list ?_
  refine lE_val (v := (.pointer (some ⟨sc, 0, none⟩))) (x_move (v := (.pointer (some ⟨sc, 0, none⟩))) rfl) rfl (by decide) rfl ?_
  refine lE_val (v := (.pointer (some ⟨sc, 0, none⟩))) (x_nil rfl) rfl (by decide) rfl ?_
  refine lE_val (v := (.pointer (some ⟨sc, 7, none⟩))) (x_fld (i := 7) (by decide) rfl) rfl (by decide) rfl ?_
  refine lE_val (v := .nilIface) (x_loadB (Tryf.isAgg32 _) rfl hB rfl) rfl (by decide) rfl ?_
  refine lE_val (v := (.bool false)) (x_neqnil rfl rfl) rfl (by decide) rfl ?_
  refine lE_nil ?_
  refine cE_condF rfl (cE_skipN ?_)
  exact hQ _ rfl

theorem seg2_eof {c : Code} (h : findCond 117 (Tryf.f26.body.getD .skip) = some c) {Q : Exit → Env → World → Prop} {E : Env} {w : World} {sc : Nat} {rd tok : Value} {cl : Bool} (hE : E 0 = .pointer (some ⟨sc, 0, none⟩)) {te : TypeId} {tv buf : Value} {st en : Nat} (hB : Blk w sc (scC rd tok buf st en (.iface te tv) cl) 67)
    (hQ : ∀ E' w', E' 2 = .bool false → Blk w' sc (scC rd tok buf 0 0 (.iface te tv) cl) 67 → Keep (fun k => k = sc) w w' → Q .ret E' w') : cE Tryf.prog 334 c Q E w := by
  cases h
  rw [upd_self hE]
  refine cE_list ?_
  refine lE_val (v := (.pointer (some ⟨sc, 0, none⟩))) (x_move (v := (.pointer (some ⟨sc, 0, none⟩))) rfl) rfl (by decide) rfl ?_
  refine lE_val (v := (.pointer (some ⟨sc, 0, none⟩))) (x_nil rfl) rfl (by decide) rfl ?_
  refine lE_val (v := (.pointer (some ⟨sc, 7, none⟩))) (x_fld (i := 7) (by decide) rfl) rfl (by decide) rfl ?_
  refine lE_val (v := (.iface te tv)) (x_loadB (Tryf.isAgg32 _) rfl hB rfl) rfl (by decide) rfl ?_
  refine lE_val (v := (.bool true)) (x_neqnil' rfl rfl) rfl (by decide) rfl ?_
  refine lE_nil ?_
  refine cE_condT rfl ?_
  refine cE_list ?_
  refine lE_val (v := (.pointer (some ⟨sc, 0, none⟩))) (x_move (v := (.pointer (some ⟨sc, 0, none⟩))) rfl) rfl (by decide) rfl ?_
  refine lE_val (v := (.pointer (some ⟨sc, 0, none⟩))) (x_nil rfl) rfl (by decide) rfl ?_
  refine lE_val (v := (.pointer (some ⟨sc, 5, none⟩))) (x_fld (i := 5) (by decide) rfl) rfl (by decide) rfl ?_
  refine lE_skip (x_storeB (v := (.int .i64 0)) (Tryf.sizeOf3 _) rfl rfl rfl hB rfl) rfl rfl ?_
  refine lE_nil ?_
  have hB1 : Blk (w.setCell ⟨sc, 5, none⟩ (.int .i64 0)) sc (scC rd tok buf 0 en (.iface te tv) cl) 67 := hB.setCell 5 _
  refine cE_list ?_
  refine lE_val (v := (.pointer (some ⟨sc, 0, none⟩))) (x_move (v := (.pointer (some ⟨sc, 0, none⟩))) rfl) rfl (by decide) rfl ?_
  refine lE_val (v := (.pointer (some ⟨sc, 0, none⟩))) (x_nil rfl) rfl (by decide) rfl ?_
  refine lE_val (v := (.pointer (some ⟨sc, 6, none⟩))) (x_fld (i := 6) (by decide) rfl) rfl (by decide) rfl ?_
  refine lE_skip (x_storeB (v := (.int .i64 0)) (Tryf.sizeOf3 _) rfl rfl rfl hB1 rfl) rfl rfl ?_
  refine lE_nil ?_
  have hB2 : Blk ((w.setCell ⟨sc, 5, none⟩ (.int .i64 0)).setCell ⟨sc, 6, none⟩ (.int .i64 0)) sc (scC rd tok buf 0 0 (.iface te tv) cl) 67 := hB1.setCell 6 _
  refine cE_list ?_
  refine lE_val (v := (.bool false)) (x_assign (v := (.bool false)) rfl) rfl (by decide) rfl ?_
  refine lE_nil ?_
  refine cE_ret ?_
  exact hQ _ _ rfl hB2 (((Keep.refl (fun k => k = sc) w).st _ _).st _ _)

end Go.Proofs.Qxb6613145aFmt
