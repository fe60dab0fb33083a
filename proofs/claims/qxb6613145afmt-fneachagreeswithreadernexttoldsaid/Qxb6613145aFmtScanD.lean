/-
  (*bufio.Scanner).Scan, a piece. (The regions' lines are written by gen/scan.py.)
-/
import Derived.Test.Qxb6613145aFmtScanA
namespace Go.Proofs.Qxb6613145aFmt
open Go.RowKit
set_option maxRecDepth 100000


theorem seg5_eof {c : Code} (h : findBlock 2 (Tryf.f26.body.getD .skip) = some c) {Q : Exit → Env → World → Prop} {E : Env} {w : World} {sc sr : Nat} {tok : Value} {cl : Bool} (hE : E 0 = .pointer (some ⟨sc, 0, none⟩))
    {bf L st en i : Nat} {pr : Int} {s : ByteArray} {te : TypeId} {tv : Value} (hB : Blk w sc (scC (.iface 43 (.pointer (some ⟨sr, 0, none⟩))) tok (.slice (some ⟨bf, 0, none⟩) L L) st en .nilIface cl) 67) (hR : Blk w sr (srC s i pr) 60) (hG : w.cell? ⟨4, 0, none⟩ = some (.iface te tv)) (hi : s.size ≤ i) (hen : en < L) (hL : L ≤ 1000000)
    (hQ : ∀ E' w', E' 0 = .pointer (some ⟨sc, 0, none⟩) → Blk w' sc (scC (.iface 43 (.pointer (some ⟨sr, 0, none⟩))) tok (.slice (some ⟨bf, 0, none⟩) L L) st en (.iface te tv) cl) 67 → Keep (fun k => k = sc) w w' → Q .normal E' w') : cE Tryf.prog 334 c Q E w := by
  cases h
  rw [upd_self hE]
  have h1 : decide ((0 : Int) < 0) = false := rfl
  have h2 : decide (((L - en : Nat) : Int) < 0) = false := by simp
  refine cE_block ?_
  refine cE_loop_once ?_
  refine cE_block ?_
  refine cE_held (S := fun w' => Blk w' sc (scC (.iface 43 (.pointer (some ⟨sr, 0, none⟩))) tok (.slice (some ⟨bf, 0, none⟩) L L) st en .nilIface cl) 67) 20 (by kernel_rfl) (by kernel_rfl) (by kernel_rfl) hB rfl ?_
  simp only [List.take_succ_cons, List.take_zero, List.drop_succ_cons, List.drop_zero]
  refine yE_val (v := (.pointer (some ⟨sc, 0, none⟩))) (fun _ _ => (x_move (v := (.pointer (some ⟨sc, 0, none⟩))) rfl)) rfl (by decide) rfl ?_
  refine yE_val (v := (.pointer (some ⟨sc, 0, none⟩))) (fun _ _ => (x_nil rfl)) rfl (by decide) rfl ?_
  refine yE_val (v := (.pointer (some ⟨sc, 0, none⟩))) (fun _ _ => (x_fld (i := 0) (by decide) rfl)) rfl (by decide) rfl ?_
  refine yE_val (v := (.iface 43 (.pointer (some ⟨sr, 0, none⟩)))) (fun _ hS => (x_loadB (Tryf.isAgg58 _) rfl hS rfl)) rfl (by decide) rfl ?_
  refine yE_val (v := (.pointer (some ⟨sc, 0, none⟩))) (fun _ _ => (x_move (v := (.pointer (some ⟨sc, 0, none⟩))) rfl)) rfl (by decide) rfl ?_
  refine yE_val (v := (.pointer (some ⟨sc, 0, none⟩))) (fun _ _ => (x_nil rfl)) rfl (by decide) rfl ?_
  refine yE_val (v := (.pointer (some ⟨sc, 4, none⟩))) (fun _ _ => (x_fld (i := 4) (by decide) rfl)) rfl (by decide) rfl ?_
  refine yE_val (v := (.slice (some ⟨bf, 0, none⟩) L L)) (fun _ hS => (x_loadB (Tryf.isAgg65 _) rfl hS rfl)) rfl (by decide) rfl ?_
  refine yE_val (v := (.pointer (some ⟨sc, 0, none⟩))) (fun _ _ => (x_move (v := (.pointer (some ⟨sc, 0, none⟩))) rfl)) rfl (by decide) rfl ?_
  refine yE_val (v := (.pointer (some ⟨sc, 0, none⟩))) (fun _ _ => (x_nil rfl)) rfl (by decide) rfl ?_
  refine yE_val (v := (.pointer (some ⟨sc, 6, none⟩))) (fun _ _ => (x_fld (i := 6) (by decide) rfl)) rfl (by decide) rfl ?_
  refine yE_val (v := (.int .i64 (en : Nat))) (fun _ hS => (x_loadB (Tryf.isAgg3 _) rfl hS rfl)) rfl (by decide) rfl ?_
  refine yE_val (v := (.pointer (some ⟨sc, 0, none⟩))) (fun _ _ => (x_move (v := (.pointer (some ⟨sc, 0, none⟩))) rfl)) rfl (by decide) rfl ?_
  refine yE_val (v := (.pointer (some ⟨sc, 0, none⟩))) (fun _ _ => (x_nil rfl)) rfl (by decide) rfl ?_
  refine yE_val (v := (.pointer (some ⟨sc, 4, none⟩))) (fun _ _ => (x_fld (i := 4) (by decide) rfl)) rfl (by decide) rfl ?_
  refine yE_val (v := (.slice (some ⟨bf, 0, none⟩) L L)) (fun _ hS => (x_loadB (Tryf.isAgg65 _) rfl hS rfl)) rfl (by decide) rfl ?_
  refine yE_val (v := (.int .i64 (L : Nat))) (fun _ _ => (x_len rfl)) rfl (by decide) rfl ?_
  refine yE_val (v := (.slice (some ⟨bf, en, none⟩) (L - en) (L - en))) (fun _ _ => (x_slice00 rfl rfl rfl (by omega) (by omega) (by omega))) rfl (by decide) rfl ?_
  refine yE_val (v := (.iface 43 (.pointer (some ⟨sr, 0, none⟩)))) (fun _ _ => (x_nil_iface rfl)) rfl (by decide) rfl ?_
  refine yE_val (v := (.iface 43 (.pointer (some ⟨sr, 0, none⟩)))) (fun _ _ => (x_move (v := (.iface 43 (.pointer (some ⟨sr, 0, none⟩)))) rfl)) rfl (by decide) rfl ?_
  refine yE_nil ⟨59, _, 287, x_read rfl rfl, rfl, by decide, by trivial, ?_⟩
  refine (read_eof (w := w.drew) hR hG hi).mono ?_
  rintro r w1 ⟨hr, hw1⟩
  rw [hr, hw1]
  refine ⟨_, rfl, hB, ?_⟩
  refine yE_val (v := (.tuple #[(.int .i64 0), (.iface te tv)])) (fun _ _ => (x_move (v := (.tuple #[(.int .i64 0), (.iface te tv)])) rfl)) rfl (by decide) rfl ?_
  refine yE_val (v := (.int .i64 0)) (fun _ _ => (x_ext (v := (.int .i64 0)) rfl rfl)) rfl (by decide) rfl ?_
  refine yE_val (v := (.iface te tv)) (fun _ _ => (x_ext (v := (.iface te tv)) rfl rfl)) rfl (by decide) rfl ?_
  refine yE_val (v := (.int .i64 0)) (fun _ _ => (x_assign (v := (.int .i64 0)) rfl)) rfl (by decide) rfl ?_
  refine yE_val (v := (.iface te tv)) (fun _ _ => (x_assign (v := (.iface te tv)) rfl)) rfl (by decide) rfl ?_
  refine yE_nil ?_
  have hB2 : Blk w.drew.drew.drew sc (scC (.iface 43 (.pointer (some ⟨sr, 0, none⟩))) tok (.slice (some ⟨bf, 0, none⟩) L L) st en .nilIface cl) 67 := hB
  refine cE_seq ?_
  have hB3 : Blk w.drew.drew.drew.drew sc (scC (.iface 43 (.pointer (some ⟨sr, 0, none⟩))) tok (.slice (some ⟨bf, 0, none⟩) L L) st en .nilIface cl) 67 := hB2
  refine cE_still (by kernel_rfl) (by kernel_rfl) ?_
  refine sE_val (v := (.int .i64 0)) (x_move (v := (.int .i64 0)) rfl) rfl (by decide) rfl ?_
  refine sE_val (v := (.bool false)) (by rw [← h1]; exact x_lss rfl rfl) rfl (by decide) rfl ?_
  refine sE_val (v := (.bool false)) (x_move (v := (.bool false)) rfl) rfl (by decide) rfl ?_
  refine sE_gval (v := (.pointer (some ⟨sc, 0, none⟩))) (x_move (v := (.pointer (some ⟨sc, 0, none⟩))) rfl) rfl (by decide) rfl rfl (by decide) rfl ?_
  refine sE_gval (v := (.pointer (some ⟨sc, 0, none⟩))) (x_nil rfl) rfl (by decide) rfl rfl (by decide) rfl ?_
  refine sE_gval (v := (.pointer (some ⟨sc, 4, none⟩))) (x_fld (i := 4) (by decide) rfl) rfl (by decide) rfl rfl (by decide) rfl ?_
  refine sE_gval (v := (.slice (some ⟨bf, 0, none⟩) L L)) (x_loadB (Tryf.isAgg65 _) rfl hB3 rfl) rfl (by decide) rfl rfl (by decide) rfl ?_
  refine sE_gval (v := (.int .i64 (L : Nat))) (x_len rfl) rfl (by decide) rfl rfl (by decide) rfl ?_
  refine sE_gval (v := (.pointer (some ⟨sc, 0, none⟩))) (x_move (v := (.pointer (some ⟨sc, 0, none⟩))) rfl) rfl (by decide) rfl rfl (by decide) rfl ?_
  refine sE_gval (v := (.pointer (some ⟨sc, 0, none⟩))) (x_nil rfl) rfl (by decide) rfl rfl (by decide) rfl ?_
  refine sE_gval (v := (.pointer (some ⟨sc, 6, none⟩))) (x_fld (i := 6) (by decide) rfl) rfl (by decide) rfl rfl (by decide) rfl ?_
  refine sE_gval (v := (.int .i64 (en : Nat))) (x_loadB (Tryf.isAgg3 _) rfl hB3 rfl) rfl (by decide) rfl rfl (by decide) rfl ?_
  refine sE_gval (v := (.int .i64 (L - en : Nat))) (x_sub (r := ((L - en : Nat) : Int)) rfl rfl (by omega) (by omega) (by omega)) rfl (by decide) rfl rfl (by decide) rfl ?_
  refine sE_gval (v := (.int .i64 0)) (x_move (v := (.int .i64 0)) rfl) rfl (by decide) rfl rfl (by decide) rfl ?_
  refine sE_gval (v := (.bool false)) (by rw [← h2]; exact x_lss rfl rfl) rfl (by decide) rfl rfl (by decide) rfl ?_
  refine sE_val (v := (.bool false)) (x_pickF (v := (.bool false)) rfl rfl) rfl (by decide) rfl ?_
  refine sE_nil ?_
  refine cE_condF rfl (cE_skipT ?_)
  refine cE_list ?_
  refine lE_val (v := (.pointer (some ⟨sc, 0, none⟩))) (x_move (v := (.pointer (some ⟨sc, 0, none⟩))) rfl) rfl (by decide) rfl ?_
  refine lE_val (v := (.pointer (some ⟨sc, 0, none⟩))) (x_nil rfl) rfl (by decide) rfl ?_
  refine lE_val (v := (.pointer (some ⟨sc, 6, none⟩))) (x_fld (i := 6) (by decide) rfl) rfl (by decide) rfl ?_
  refine lE_val (v := (.int .i64 (en : Nat))) (x_loadB (Tryf.isAgg3 _) rfl hB3 rfl) rfl (by decide) rfl ?_
  refine lE_val (v := (.int .i64 0)) (x_move (v := (.int .i64 0)) rfl) rfl (by decide) rfl ?_
  refine lE_val (v := (.int .i64 (en : Nat))) (x_add (r := ((en : Nat) : Int)) rfl rfl (by omega) (by omega) (by omega)) rfl (by decide) rfl ?_
  refine lE_val (v := (.pointer (some ⟨sc, 0, none⟩))) (x_nil rfl) rfl (by decide) rfl ?_
  refine lE_val (v := (.pointer (some ⟨sc, 6, none⟩))) (x_fld (i := 6) (by decide) rfl) rfl (by decide) rfl ?_
  refine lE_skip (x_storeB (v := (.int .i64 (en : Nat))) (Tryf.sizeOf3 _) rfl rfl rfl hB3 rfl) rfl rfl ?_
  refine lE_nil ?_
  have hB4 : Blk (w.drew.drew.drew.drew.setCell ⟨sc, 6, none⟩ (.int .i64 (en : Nat))) sc (scC (.iface 43 (.pointer (some ⟨sr, 0, none⟩))) tok (.slice (some ⟨bf, 0, none⟩) L L) st en .nilIface cl) 67 := hB3.setCell 6 _
  refine cE_seq ?_
  refine cE_list ?_
  refine lE_val (v := (.iface te tv)) (x_move (v := (.iface te tv)) rfl) rfl (by decide) rfl ?_
  refine lE_val (v := (.bool true)) (x_neqnil' rfl rfl) rfl (by decide) rfl ?_
  refine lE_nil ?_
  refine cE_condT rfl ?_
  refine cE_list ?_
  have hB9 : Blk (w.drew.drew.drew.drew.setCell ⟨sc, 6, none⟩ (.int .i64 (en : Nat))).drew sc (scC (.iface 43 (.pointer (some ⟨sr, 0, none⟩))) tok (.slice (some ⟨bf, 0, none⟩) L L) st en .nilIface cl) 67 := hB4
  refine lE_val (v := (.pointer (some ⟨sc, 0, none⟩))) (x_move (v := (.pointer (some ⟨sc, 0, none⟩))) rfl) rfl (by decide) rfl ?_
  refine lE_val (v := (.iface te tv)) (x_move (v := (.iface te tv)) rfl) rfl (by decide) rfl ?_
  refine lE_call (x_call2 Tryf.func34 (by kernel_rfl) (by kernel_rfl) rfl rfl rfl) rfl (by decide) rfl ?_
  refine Calls.mono (setErr_calls hB9 (.iface te tv) rfl) ?_
  intro r w1 hr; obtain ⟨hr1, hr2⟩ := hr; rw [hr1, hr2]; refine ⟨_, rfl, ?_⟩
  refine lE_nil ?_
  have hB5 : Blk ((w.drew.drew.drew.drew.setCell ⟨sc, 6, none⟩ (.int .i64 (en : Nat))).drew.setCell ⟨sc, 7, none⟩ (.iface te tv)) sc (scC (.iface 43 (.pointer (some ⟨sr, 0, none⟩))) tok (.slice (some ⟨bf, 0, none⟩) L L) st en (.iface te tv) cl) 67 := Blk.setCell (w := (w.drew.drew.drew.drew.setCell ⟨sc, 6, none⟩ (.int .i64 (en : Nat))).drew) hB4 7 _
  refine cE_exit ?_
  dsimp only [thenE, inBlockE]
  rw [if_neg (by decide), if_pos rfl]
  refine hQ _ _ rfl hB5 ?_
  exact ((Keep.refl (fun k => k = sc) w).drew.drew.drew.drew.setCell rfl _).drew.setCell rfl _

theorem seg5_data {c : Code} (h : findBlock 2 (Tryf.f26.body.getD .skip) = some c) {Q : Exit → Env → World → Prop} {E : Env} {w : World} {sc sr : Nat} {tok : Value} {cl : Bool} (hE : E 0 = .pointer (some ⟨sc, 0, none⟩))
    {bf L st en i : Nat} {pr : Int} {s : ByteArray} {bs ys : List UInt8} (hB : Blk w sc (scC (.iface 43 (.pointer (some ⟨sr, 0, none⟩))) tok (.slice (some ⟨bf, 0, none⟩) L L) st en .nilIface cl) 67) (hR : Blk w sr (srC s i pr) 60) (hF0 : Blk w bf (bs.map byteV).toArray 5) (hne1 : sc ≠ sr) (hne2 : sc ≠ bf)
    (hi : i < s.size) (hsz : s.size ≤ 65536) (hen : en < L) (hL : L ≤ 1000000) (hbs : bs.length = L) (hys : ys = (s.data.toList.drop i).take (L - en))
    (hQ : ∀ E' w', E' 0 = .pointer (some ⟨sc, 0, none⟩) → Blk w' sc (scC (.iface 43 (.pointer (some ⟨sr, 0, none⟩))) tok (.slice (some ⟨bf, 0, none⟩) L L) st (en + ys.length) .nilIface cl) 67 → Blk w' sr (srC s (i + ys.length) (-1)) 60 →
      Blk w' bf ((bs.take en ++ ys ++ bs.drop (en + ys.length)).map byteV).toArray 5 → Keep (fun k => k = sc ∨ k = sr ∨ k = bf) w w' → Q .normal E' w') : cE Tryf.prog 334 c Q E w := by
  cases h
  rw [upd_self hE]
  have hyl : ys.length = min (L - en) (s.size - i) := by rw [hys, List.length_take, List.length_drop]; rfl
  have hfit : en + ys.length ≤ bs.length := by omega
  have hsz : s.size ≤ 1000000 := by omega
  have h1 : decide (((ys.length : Nat) : Int) < 0) = false := by simp
  have h2 : decide (((L - en : Nat) : Int) < ((ys.length : Nat) : Int)) = false := by simp; omega
  have h3 : decide ((0 : Int) < ((ys.length : Nat) : Int)) = true := by simp only [decide_eq_true_eq]; omega
  refine cE_block ?_
  refine cE_loop_once ?_
  refine cE_block ?_
  refine cE_held (S := fun w' => Blk w' sc (scC (.iface 43 (.pointer (some ⟨sr, 0, none⟩))) tok (.slice (some ⟨bf, 0, none⟩) L L) st en .nilIface cl) 67) 20 (by kernel_rfl) (by kernel_rfl) (by kernel_rfl) hB rfl ?_
  simp only [List.take_succ_cons, List.take_zero, List.drop_succ_cons, List.drop_zero]
  refine yE_val (v := (.pointer (some ⟨sc, 0, none⟩))) (fun _ _ => (x_move (v := (.pointer (some ⟨sc, 0, none⟩))) rfl)) rfl (by decide) rfl ?_
  refine yE_val (v := (.pointer (some ⟨sc, 0, none⟩))) (fun _ _ => (x_nil rfl)) rfl (by decide) rfl ?_
  refine yE_val (v := (.pointer (some ⟨sc, 0, none⟩))) (fun _ _ => (x_fld (i := 0) (by decide) rfl)) rfl (by decide) rfl ?_
  refine yE_val (v := (.iface 43 (.pointer (some ⟨sr, 0, none⟩)))) (fun _ hS => (x_loadB (Tryf.isAgg58 _) rfl hS rfl)) rfl (by decide) rfl ?_
  refine yE_val (v := (.pointer (some ⟨sc, 0, none⟩))) (fun _ _ => (x_move (v := (.pointer (some ⟨sc, 0, none⟩))) rfl)) rfl (by decide) rfl ?_
  refine yE_val (v := (.pointer (some ⟨sc, 0, none⟩))) (fun _ _ => (x_nil rfl)) rfl (by decide) rfl ?_
  refine yE_val (v := (.pointer (some ⟨sc, 4, none⟩))) (fun _ _ => (x_fld (i := 4) (by decide) rfl)) rfl (by decide) rfl ?_
  refine yE_val (v := (.slice (some ⟨bf, 0, none⟩) L L)) (fun _ hS => (x_loadB (Tryf.isAgg65 _) rfl hS rfl)) rfl (by decide) rfl ?_
  refine yE_val (v := (.pointer (some ⟨sc, 0, none⟩))) (fun _ _ => (x_move (v := (.pointer (some ⟨sc, 0, none⟩))) rfl)) rfl (by decide) rfl ?_
  refine yE_val (v := (.pointer (some ⟨sc, 0, none⟩))) (fun _ _ => (x_nil rfl)) rfl (by decide) rfl ?_
  refine yE_val (v := (.pointer (some ⟨sc, 6, none⟩))) (fun _ _ => (x_fld (i := 6) (by decide) rfl)) rfl (by decide) rfl ?_
  refine yE_val (v := (.int .i64 (en : Nat))) (fun _ hS => (x_loadB (Tryf.isAgg3 _) rfl hS rfl)) rfl (by decide) rfl ?_
  refine yE_val (v := (.pointer (some ⟨sc, 0, none⟩))) (fun _ _ => (x_move (v := (.pointer (some ⟨sc, 0, none⟩))) rfl)) rfl (by decide) rfl ?_
  refine yE_val (v := (.pointer (some ⟨sc, 0, none⟩))) (fun _ _ => (x_nil rfl)) rfl (by decide) rfl ?_
  refine yE_val (v := (.pointer (some ⟨sc, 4, none⟩))) (fun _ _ => (x_fld (i := 4) (by decide) rfl)) rfl (by decide) rfl ?_
  refine yE_val (v := (.slice (some ⟨bf, 0, none⟩) L L)) (fun _ hS => (x_loadB (Tryf.isAgg65 _) rfl hS rfl)) rfl (by decide) rfl ?_
  refine yE_val (v := (.int .i64 (L : Nat))) (fun _ _ => (x_len rfl)) rfl (by decide) rfl ?_
  refine yE_val (v := (.slice (some ⟨bf, en, none⟩) (L - en) (L - en))) (fun _ _ => (x_slice00 rfl rfl rfl (by omega) (by omega) (by omega))) rfl (by decide) rfl ?_
  refine yE_val (v := (.iface 43 (.pointer (some ⟨sr, 0, none⟩)))) (fun _ _ => (x_nil_iface rfl)) rfl (by decide) rfl ?_
  refine yE_val (v := (.iface 43 (.pointer (some ⟨sr, 0, none⟩)))) (fun _ _ => (x_move (v := (.iface 43 (.pointer (some ⟨sr, 0, none⟩)))) rfl)) rfl (by decide) rfl ?_
  refine yE_nil ⟨59, _, 287, x_read rfl rfl, rfl, by decide, by trivial, ?_⟩
  refine (read_data (w := w.drew) (off := en) (m := L - en) (c := L - en) hR hF0 hi hsz hys hfit).mono ?_
  rintro r w1 ⟨hr, hS1, hF1, hK1⟩
  rw [hr]
  have hB1 : Blk w1 sc (scC (.iface 43 (.pointer (some ⟨sr, 0, none⟩))) tok (.slice (some ⟨bf, 0, none⟩) L L) st en .nilIface cl) 67 := hK1.blk hB (by rintro (e | e); exact hne1 e; exact hne2 e)
  refine ⟨_, rfl, hB1, ?_⟩
  refine yE_val (v := (.tuple #[(.int .i64 (ys.length : Nat)), .nilIface])) (fun _ _ => (x_move (v := (.tuple #[(.int .i64 (ys.length : Nat)), .nilIface])) rfl)) rfl (by decide) rfl ?_
  refine yE_val (v := (.int .i64 (ys.length : Nat))) (fun _ _ => (x_ext (v := (.int .i64 (ys.length : Nat))) rfl rfl)) rfl (by decide) rfl ?_
  refine yE_val (v := .nilIface) (fun _ _ => (x_ext (v := .nilIface) rfl rfl)) rfl (by decide) rfl ?_
  refine yE_val (v := (.int .i64 (ys.length : Nat))) (fun _ _ => (x_assign (v := (.int .i64 (ys.length : Nat))) rfl)) rfl (by decide) rfl ?_
  refine yE_val (v := .nilIface) (fun _ _ => (x_assign (v := .nilIface) rfl)) rfl (by decide) rfl ?_
  refine yE_nil ?_
  refine cE_seq ?_
  have hB2 : Blk w1.drew sc (scC (.iface 43 (.pointer (some ⟨sr, 0, none⟩))) tok (.slice (some ⟨bf, 0, none⟩) L L) st en .nilIface cl) 67 := hB1
  refine cE_still (by kernel_rfl) (by kernel_rfl) ?_
  refine sE_val (v := (.int .i64 (ys.length : Nat))) (x_move (v := (.int .i64 (ys.length : Nat))) rfl) rfl (by decide) rfl ?_
  refine sE_val (v := (.bool false)) (by rw [← h1]; exact x_lss rfl rfl) rfl (by decide) rfl ?_
  refine sE_val (v := (.bool false)) (x_move (v := (.bool false)) rfl) rfl (by decide) rfl ?_
  refine sE_gval (v := (.pointer (some ⟨sc, 0, none⟩))) (x_move (v := (.pointer (some ⟨sc, 0, none⟩))) rfl) rfl (by decide) rfl rfl (by decide) rfl ?_
  refine sE_gval (v := (.pointer (some ⟨sc, 0, none⟩))) (x_nil rfl) rfl (by decide) rfl rfl (by decide) rfl ?_
  refine sE_gval (v := (.pointer (some ⟨sc, 4, none⟩))) (x_fld (i := 4) (by decide) rfl) rfl (by decide) rfl rfl (by decide) rfl ?_
  refine sE_gval (v := (.slice (some ⟨bf, 0, none⟩) L L)) (x_loadB (Tryf.isAgg65 _) rfl hB2 rfl) rfl (by decide) rfl rfl (by decide) rfl ?_
  refine sE_gval (v := (.int .i64 (L : Nat))) (x_len rfl) rfl (by decide) rfl rfl (by decide) rfl ?_
  refine sE_gval (v := (.pointer (some ⟨sc, 0, none⟩))) (x_move (v := (.pointer (some ⟨sc, 0, none⟩))) rfl) rfl (by decide) rfl rfl (by decide) rfl ?_
  refine sE_gval (v := (.pointer (some ⟨sc, 0, none⟩))) (x_nil rfl) rfl (by decide) rfl rfl (by decide) rfl ?_
  refine sE_gval (v := (.pointer (some ⟨sc, 6, none⟩))) (x_fld (i := 6) (by decide) rfl) rfl (by decide) rfl rfl (by decide) rfl ?_
  refine sE_gval (v := (.int .i64 (en : Nat))) (x_loadB (Tryf.isAgg3 _) rfl hB2 rfl) rfl (by decide) rfl rfl (by decide) rfl ?_
  refine sE_gval (v := (.int .i64 (L - en : Nat))) (x_sub (r := ((L - en : Nat) : Int)) rfl rfl (by omega) (by omega) (by omega)) rfl (by decide) rfl rfl (by decide) rfl ?_
  refine sE_gval (v := (.int .i64 (ys.length : Nat))) (x_move (v := (.int .i64 (ys.length : Nat))) rfl) rfl (by decide) rfl rfl (by decide) rfl ?_
  refine sE_gval (v := (.bool false)) (by rw [← h2]; exact x_lss rfl rfl) rfl (by decide) rfl rfl (by decide) rfl ?_
  refine sE_val (v := (.bool false)) (x_pickF (v := (.bool false)) rfl rfl) rfl (by decide) rfl ?_
  refine sE_nil ?_
  refine cE_condF rfl (cE_skipT ?_)
  refine cE_list ?_
  refine lE_val (v := (.pointer (some ⟨sc, 0, none⟩))) (x_move (v := (.pointer (some ⟨sc, 0, none⟩))) rfl) rfl (by decide) rfl ?_
  refine lE_val (v := (.pointer (some ⟨sc, 0, none⟩))) (x_nil rfl) rfl (by decide) rfl ?_
  refine lE_val (v := (.pointer (some ⟨sc, 6, none⟩))) (x_fld (i := 6) (by decide) rfl) rfl (by decide) rfl ?_
  refine lE_val (v := (.int .i64 (en : Nat))) (x_loadB (Tryf.isAgg3 _) rfl hB2 rfl) rfl (by decide) rfl ?_
  refine lE_val (v := (.int .i64 (ys.length : Nat))) (x_move (v := (.int .i64 (ys.length : Nat))) rfl) rfl (by decide) rfl ?_
  refine lE_val (v := (.int .i64 ((en + ys.length) : Nat))) (x_add (r := (((en + ys.length) : Nat) : Int)) rfl rfl (by omega) (by omega) (by omega)) rfl (by decide) rfl ?_
  refine lE_val (v := (.pointer (some ⟨sc, 0, none⟩))) (x_nil rfl) rfl (by decide) rfl ?_
  refine lE_val (v := (.pointer (some ⟨sc, 6, none⟩))) (x_fld (i := 6) (by decide) rfl) rfl (by decide) rfl ?_
  refine lE_skip (x_storeB (v := (.int .i64 ((en + ys.length) : Nat))) (Tryf.sizeOf3 _) rfl rfl rfl hB2 rfl) rfl rfl ?_
  refine lE_nil ?_
  have hB3 : Blk (w1.drew.setCell ⟨sc, 6, none⟩ (.int .i64 ((en + ys.length) : Nat))) sc (scC (.iface 43 (.pointer (some ⟨sr, 0, none⟩))) tok (.slice (some ⟨bf, 0, none⟩) L L) st (en + ys.length) .nilIface cl) 67 := hB2.setCell 6 _
  refine cE_seq ?_
  refine cE_list ?_
  refine lE_val (v := .nilIface) (x_move (v := .nilIface) rfl) rfl (by decide) rfl ?_
  refine lE_val (v := (.bool false)) (x_neqnil rfl rfl) rfl (by decide) rfl ?_
  refine lE_nil ?_
  refine cE_condF rfl (cE_skipT ?_)
  refine cE_seq ?_
  refine cE_list ?_
  refine lE_val (v := (.int .i64 (ys.length : Nat))) (x_move (v := (.int .i64 (ys.length : Nat))) rfl) rfl (by decide) rfl ?_
  refine lE_val (v := (.bool true)) (by rw [← h3]; exact x_gtr rfl rfl) rfl (by decide) rfl ?_
  refine lE_nil ?_
  refine cE_condT rfl ?_
  refine cE_list ?_
  refine lE_val (v := (.pointer (some ⟨sc, 0, none⟩))) (x_move (v := (.pointer (some ⟨sc, 0, none⟩))) rfl) rfl (by decide) rfl ?_
  refine lE_val (v := (.pointer (some ⟨sc, 0, none⟩))) (x_nil rfl) rfl (by decide) rfl ?_
  refine lE_val (v := (.pointer (some ⟨sc, 8, none⟩))) (x_fld (i := 8) (by decide) rfl) rfl (by decide) rfl ?_
  refine lE_skip (x_storeB (v := (.int .i64 0)) (Tryf.sizeOf3 _) rfl rfl rfl hB3 rfl) rfl rfl ?_
  refine lE_nil ?_
  have hB4 : Blk ((w1.drew.setCell ⟨sc, 6, none⟩ (.int .i64 ((en + ys.length) : Nat))).setCell ⟨sc, 8, none⟩ (.int .i64 0)) sc (scC (.iface 43 (.pointer (some ⟨sr, 0, none⟩))) tok (.slice (some ⟨bf, 0, none⟩) L L) st (en + ys.length) .nilIface cl) 67 := hB3.setCell 8 _
  refine cE_exit ?_
  dsimp only [thenE, inBlockE]
  rw [if_neg (by decide), if_pos rfl]
  have hS2 : Blk ((w1.drew.setCell ⟨sc, 6, none⟩ (.int .i64 ((en + ys.length) : Nat))).setCell ⟨sc, 8, none⟩ (.int .i64 0)) sr (srC s (i + ys.length) (-1)) 60 := Blk.setCell_ne (Blk.setCell_ne (w := w1.drew) hS1 (Ne.symm hne1) 6 _) (Ne.symm hne1) 8 _
  have hF2 : Blk ((w1.drew.setCell ⟨sc, 6, none⟩ (.int .i64 ((en + ys.length) : Nat))).setCell ⟨sc, 8, none⟩ (.int .i64 0)) bf ((bs.take en ++ ys ++ bs.drop (en + ys.length)).map byteV).toArray 5 := Blk.setCell_ne (Blk.setCell_ne (w := w1.drew) hF1 (Ne.symm hne2) 6 _) (Ne.symm hne2) 8 _
  refine hQ _ _ rfl hB4 hS2 hF2 ?_
  have hK2 : Keep (fun k => k = sc ∨ k = sr ∨ k = bf) w w1 := (Keep.refl _ w).drew.trans (hK1.mono fun k _ hk => Or.inr hk)
  exact (hK2.drew.setCell (Or.inl rfl) _).setCell (Or.inl rfl) _

end Go.Proofs.Qxb6613145aFmt
