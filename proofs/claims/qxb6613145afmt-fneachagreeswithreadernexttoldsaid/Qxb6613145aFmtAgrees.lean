/-
  FnEachAgreesWithReaderNext. (The regions' lines are written by gen/agrees.py.)
-/
import Derived.Test.Qxb6613145aFmtReadAll
namespace Go.Proofs.Qxb6613145aFmt
open Go.RowKit
set_option maxRecDepth 100000

theorem keep6 {E : Env} {d0 d1 d2 d3 d4 d5 : Nat} {v0 v1 v2 v3 v4 v5 : Value} (h0 : E d0 = v0) (h1 : E d1 = v1) (h2 : E d2 = v2) (h3 : E d3 = v3) (h4 : E d4 = v4) (h5 : E d5 = v5) : E = upd (upd (upd (upd (upd (upd E d0 v0) d1 v1) d2 v2) d3 v3) d4 v4) d5 v5 := by
  rw [← keep5 h0 h1 h2 h3 h4]; exact upd_self h5

set_option maxHeartbeats 400000 in
theorem bytesOK16_calls (s : ByteArray) (k : Int) (w : World) (hs : s.size ≤ 1048576) : Calls Tryf.prog 16 #[.string s, .int .i64 k] w fun e w' => e = .returned (.bool true) ∧ w' = w := by
  go_enter Tryf.func16, Tryf.ntmps16
  go_wp2
  go_ret
  exact ⟨rfl, rfl⟩
set_option maxHeartbeats 400000 in
theorem bytesNo16_calls (s : ByteArray) (k : Int) (w : World) (hs : 1048576 < s.size) : Calls Tryf.prog 16 #[.string s, .int .i64 k] w fun e w' => e = .returned (.bool false) ∧ w' = w := by
  go_enter Tryf.func16, Tryf.ntmps16
  go_wp2
  go_ret
  exact ⟨rfl, rfl⟩

/-- What holds at the head of the last loop: nothing is written any more. -/
def AgrInv (B0 g1 g2 g3 g4 base sb : Nat) (stx : ByteArray) (kk : Int) (xs lines : List (List UInt8)) (bw : Nat) (vn vt : Value) (w0 : World) (E : Env) (w : World) (m : Nat) : Prop :=
  ∃ i : Nat, E 5 = vn ∧ E 6 = vt ∧ E 10 = .pointer (some ⟨g1, 0, none⟩) ∧ E 11 = .pointer (some ⟨g2, 0, none⟩) ∧ E 13 = .int .i64 (xs.length : Nat) ∧ E 15 = .int .i64 (i : Nat) ∧ i ≤ xs.length ∧ m = xs.length - i ∧
    Got w B0 g1 g2 g3 g4 base sb stx kk xs ∧ w.ownsRow bw 3 1 vn lines.length (numsV lines.length) ∧ w.ownsRow bw 9 1 vt lines.length (lines.map strV) ∧ Keep (fun _ => False) w0 w

set_option maxHeartbeats 1000000 in
theorem agrees_loop {c : Code} (hc : findBlock 0 (Tryf.f6.body.getD .skip) = some c) {B0 g1 g2 g3 g4 base sb : Nat} {stx : ByteArray} {kk : Int} {xs lines : List (List UInt8)} {bw : Nat} {vn vt : Value} {w0 : World} (hxs : xs.length ≤ lines.length) (hpre : ∀ i, i < xs.length → xs[i]? = lines[i]?) (hsm : lines.length ≤ 65536)
    {Q : Exit → Env → World → Prop} {E : Env} {w : World} {m : Nat} (hI : AgrInv B0 g1 g2 g3 g4 base sb stx kk xs lines bw vn vt w0 E w m) (hend : ∀ E' w', Keep (fun _ => False) w0 w' → Q .normal E' w') : cE Tryf.prog 99 c Q E w := by
  cases hc
  refine cE_block ?_
  refine cE_loop (AgrInv B0 g1 g2 g3 g4 base sb stx kk xs lines bw vn vt w0) hI ?_
  rintro E w m ⟨i, h5, h6, h10, h11, h13, h15, hi, hm, hgot, hon, hot, hK⟩
  by_cases hlt : i < xs.length
  · have h1 : decide (((i : Nat) : Int) < ((xs.length : Nat) : Int)) = true := by simp; omega
    obtain ⟨v1, v2, b1', o1, b2', o2⟩ := hgot.rows
    obtain ⟨ga, ca, e1, hc1⟩ := row_form o1 (by omega)
    obtain ⟨gb, cb, e2, hc2⟩ := row_form o2 (by omega)
    obtain ⟨gn, cn, e3, hc3⟩ := row_form hon (by omega)
    obtain ⟨gt, ct, e4, hc4⟩ := row_form hot (by omega)
    subst e1; subst e2; subst e3; subst e4
    obtain ⟨line, hline⟩ : ∃ line, xs[i]? = some line := ⟨_, List.getElem?_eq_getElem hlt⟩
    have c1 : w.drew.cell? ⟨ga, 0 + i, none⟩ = some (.int .i64 (i + 1 : Nat)) := by
      show w.cell? _ = _
      rw [hc1 i hlt]
      simp [numsV, hlt]
    have c2 : w.drew.cell? ⟨gb, 0 + i, none⟩ = some (.string (strB line)) := by
      show w.cell? _ = _
      rw [hc2 i hlt, List.getElem?_map, hline]
      rfl
    have c3 : w.drew.cell? ⟨gn, 0 + i, none⟩ = some (.int .i64 (i + 1 : Nat)) := by
      show w.cell? _ = _
      have hil : i < lines.length := by omega
      rw [hc3 i hil]
      simp [numsV, hil]
    have c4 : w.drew.cell? ⟨gt, 0 + i, none⟩ = some (.string (strB line)) := by
      show w.cell? _ = _
      rw [hc4 i (by omega), List.getElem?_map, ← hpre i hlt, hline]
      rfl
    generalize hmm : xs.length = mm at *
    have b1 : Blk w.drew g1 #[.slice (some ⟨ga, 0, none⟩) mm ca] 25 := b1'
    have b2 : Blk w.drew g2 #[.slice (some ⟨gb, 0, none⟩) mm cb] 23 := b2'
    rw [keep6 h5 h6 h10 h11 h13 h15]
    refine cE_seq ?_
    refine cE_list ?_
    refine lE_val (v := (.int .i64 (i : Nat))) (x_move (v := (.int .i64 (i : Nat))) rfl) rfl (by decide) rfl ?_
    refine lE_val (v := (.int .i64 (mm : Nat))) (x_move (v := (.int .i64 (mm : Nat))) rfl) rfl (by decide) rfl ?_
    refine lE_val (v := (.bool true)) (by rw [← h1]; exact x_lss rfl rfl) rfl (by decide) rfl ?_
    refine lE_nil ?_
    refine cE_condT rfl (cE_skipT ?_)
    refine cE_seq ?_
    refine cE_block ?_
    refine cE_still (by kernel_rfl) (by kernel_rfl) ?_
    refine sE_val (v := (.slice (some ⟨ga, 0, none⟩) mm ca)) (x_loadB (Tryf.isAgg25 _) rfl b1 rfl) rfl (by decide) rfl ?_
    refine sE_val (v := (.int .i64 (i : Nat))) (x_move (v := (.int .i64 (i : Nat))) rfl) rfl (by decide) rfl ?_
    refine sE_val (v := (.pointer (some ⟨ga, 0 + i, none⟩))) (x_indexAddr Tryf.underlying25 (Tryf.sizeOf3 _) rfl rfl (by omega)) rfl (by decide) rfl ?_
    refine sE_val (v := (.int .i64 (i + 1 : Nat))) (x_load (Tryf.isAgg3 _) rfl c1) rfl (by decide) rfl ?_
    refine sE_val (v := (.slice (some ⟨gn, 0, none⟩) (lines.length) cn)) (x_move (v := (.slice (some ⟨gn, 0, none⟩) (lines.length) cn)) rfl) rfl (by decide) rfl ?_
    refine sE_val (v := (.int .i64 (i : Nat))) (x_move (v := (.int .i64 (i : Nat))) rfl) rfl (by decide) rfl ?_
    refine sE_val (v := (.pointer (some ⟨gn, 0 + i, none⟩))) (x_indexAddr Tryf.underlying25 (Tryf.sizeOf3 _) rfl rfl (by omega)) rfl (by decide) rfl ?_
    refine sE_val (v := (.int .i64 (i + 1 : Nat))) (x_load (Tryf.isAgg3 _) rfl c3) rfl (by decide) rfl ?_
    refine sE_val (v := (.bool false)) (x_neq3s rfl rfl) rfl (by decide) rfl ?_
    refine sE_val (v := (.bool false)) (x_move (v := (.bool false)) rfl) rfl (by decide) rfl ?_
    refine sE_gval (v := (.slice (some ⟨gb, 0, none⟩) mm cb)) (x_loadB (Tryf.isAgg23 _) rfl b2 rfl) rfl (by decide) rfl rfl (by decide) rfl ?_
    refine sE_gval (v := (.int .i64 (i : Nat))) (x_move (v := (.int .i64 (i : Nat))) rfl) rfl (by decide) rfl rfl (by decide) rfl ?_
    refine sE_gval (v := (.pointer (some ⟨gb, 0 + i, none⟩))) (x_indexAddr Tryf.underlying23 (Tryf.sizeOf9 _) rfl rfl (by omega)) rfl (by decide) rfl rfl (by decide) rfl ?_
    refine sE_gval (v := (.string (strB line))) (x_load (Tryf.isAgg9 _) rfl c2) rfl (by decide) rfl rfl (by decide) rfl ?_
    refine sE_gval (v := (.slice (some ⟨gt, 0, none⟩) (lines.length) ct)) (x_move (v := (.slice (some ⟨gt, 0, none⟩) (lines.length) ct)) rfl) rfl (by decide) rfl rfl (by decide) rfl ?_
    refine sE_gval (v := (.int .i64 (i : Nat))) (x_move (v := (.int .i64 (i : Nat))) rfl) rfl (by decide) rfl rfl (by decide) rfl ?_
    refine sE_gval (v := (.pointer (some ⟨gt, 0 + i, none⟩))) (x_indexAddr Tryf.underlying23 (Tryf.sizeOf9 _) rfl rfl (by omega)) rfl (by decide) rfl rfl (by decide) rfl ?_
    refine sE_gval (v := (.string (strB line))) (x_load (Tryf.isAgg9 _) rfl c4) rfl (by decide) rfl rfl (by decide) rfl ?_
    refine sE_gval (v := (.bool false)) (x_neqSs rfl rfl) rfl (by decide) rfl rfl (by decide) rfl ?_
    refine sE_val (v := (.bool false)) (x_pickF (v := (.bool false)) rfl rfl) rfl (by decide) rfl ?_
    refine sE_nil ?_
    refine cE_condF rfl (cE_skipN ?_)
    change cE Tryf.prog 99 _ _ _ _
    refine cE_list_last ?_
    refine lE_val (v := (.int .i64 (i : Nat))) (x_move (v := (.int .i64 (i : Nat))) rfl) rfl (by decide) rfl ?_
    refine lE_val (v := (.int .i64 (i + 1 : Nat))) (x_add (r := ((i + 1 : Nat) : Int)) rfl rfl (by omega) (by omega) (by omega)) rfl (by decide) rfl ?_
    refine lE_val (v := (.int .i64 (i + 1 : Nat))) (x_assign (v := (.int .i64 (i + 1 : Nat))) rfl) rfl (by decide) rfl ?_
    refine lE_nil ?_
    refine ⟨mm - (i + 1), by omega, i + 1, rfl, rfl, rfl, rfl, by rw [hmm]; rfl, rfl, by omega, by omega, hgot.kept (Keep.refl (fun _ => False) w).drew (fun k h => h.elim), hon, hot, hK.drew⟩
  · have h1 : decide (((i : Nat) : Int) < ((xs.length : Nat) : Int)) = false := by simp; omega
    generalize hmm : xs.length = mm at *
    rw [keep6 h5 h6 h10 h11 h13 h15]
    refine cE_seq ?_
    refine cE_list ?_
    refine lE_val (v := (.int .i64 (i : Nat))) (x_move (v := (.int .i64 (i : Nat))) rfl) rfl (by decide) rfl ?_
    refine lE_val (v := (.int .i64 (mm : Nat))) (x_move (v := (.int .i64 (mm : Nat))) rfl) rfl (by decide) rfl ?_
    refine lE_val (v := (.bool false)) (by rw [← h1]; exact x_lss rfl rfl) rfl (by decide) rfl ?_
    refine lE_nil ?_
    refine cE_condF rfl ?_
    refine cE_exit ?_
    exact hend _ _ hK

theorem agrees_tail {ops : Array Oper} {b : Bool} (h : findRegion 25 (Tryf.f6.body.getD .skip) = some (ops, b)) {E : Env} {w w0 : World} (hk : Keep (fun _ => False) w0 w) :
    cE Tryf.prog 99 (.seq (.region 25 ops b) .ret) (endE (fun E => E 4) fun r w' => r = .returned (.bool true) ∧ Keep (fun _ => False) w0 w') E w := by
  cases h
  refine cE_list ?_
  refine lE_val (v := (.bool true)) (x_assign (v := (.bool true)) rfl) rfl (by decide) rfl ?_
  refine lE_nil ?_
  exact cE_retE ⟨rfl, hk⟩

set_option maxHeartbeats 2000000 in
theorem agrees_calls {w : World} {ea ta : Addr} {s : ByteArray} {kk : Int} (hG : w.cell? ⟨4, 0, none⟩ = some (.iface 54 (.pointer (some ea)))) (hT : w.cell? ⟨0, 0, none⟩ = some (.iface 54 (.pointer (some ta)))) (h7 : 7 ≤ w.heap.size) :
    Calls Tryf.prog 6 #[.string s, .int .i64 kk] w fun r w' => r = .returned (.bool true) ∧ Keep (fun _ => False) w w' := by
  have hk1 : Keep (fun _ => False) w (w.alloc (.cells #[.int .i64 kk] 3)) := (Keep.refl _ w).alloc _
  have bk : Blk (w.alloc (.cells #[.int .i64 kk] 3)) w.heap.size #[.int .i64 kk] 3 := Blk.alloc_new w _ _
  have hz1 : (w.alloc (.cells #[.int .i64 kk] 3)).heap.size = w.heap.size + 1 := by simp
  refine calls_E Tryf.func6 rfl Tryf.ntmps6 (by simp) (env2 _ _) _ (res1 Tryf.results6) ?_
  by_cases hbig : 1048576 < s.size
  · refine cE_list ?_
    refine lE_val (v := (.pointer (some ⟨w.heap.size, 0, none⟩))) (x_box3 rfl) rfl (by decide) rfl ?_
    refine lE_val (v := (.bool false)) (x_assign (v := (.bool false)) rfl) rfl (by decide) rfl ?_
    refine lE_nil ?_
    generalize hw1 : w.alloc (.cells #[.int .i64 kk] 3) = w1 at *
    refine cE_seq ?_
    refine cE_list ?_
    refine lE_val (v := (.string s)) (x_move (v := (.string s)) rfl) rfl (by decide) rfl ?_
    refine lE_val (v := (.int .i64 kk)) (x_loadB (Tryf.isAgg3 _) rfl bk rfl) rfl (by decide) rfl ?_
    refine lE_call (x_call2 Tryf.func16 (by kernel_rfl) (by kernel_rfl) rfl rfl rfl) rfl (by decide) rfl ?_
    refine Calls.mono (bytesNo16_calls s kk w1 (by omega)) ?_
    intro rr ww hrr; obtain ⟨hr1, hr2⟩ := hrr; rw [hr1, hr2]; refine ⟨_, rfl, ?_⟩
    refine lE_val (v := (.bool true)) (x_not (b := false) rfl) rfl (by decide) rfl ?_
    refine lE_nil ?_
    refine cE_condT rfl ?_
    refine cE_list ?_
    refine lE_val (v := (.bool true)) (x_assign (v := (.bool true)) rfl) rfl (by decide) rfl ?_
    refine lE_nil ?_
    exact cE_retE1 ⟨rfl, hk1⟩
  · by_cases hmid : 65536 < s.size
    · have h3 : decide ((65536 : Int) < ((s.size : Nat) : Int)) = true := by simp; omega
      refine cE_list ?_
      refine lE_val (v := (.pointer (some ⟨w.heap.size, 0, none⟩))) (x_box3 rfl) rfl (by decide) rfl ?_
      refine lE_val (v := (.bool false)) (x_assign (v := (.bool false)) rfl) rfl (by decide) rfl ?_
      refine lE_nil ?_
      generalize hw1 : w.alloc (.cells #[.int .i64 kk] 3) = w1 at *
      refine cE_seq ?_
      refine cE_list ?_
      refine lE_val (v := (.string s)) (x_move (v := (.string s)) rfl) rfl (by decide) rfl ?_
      refine lE_val (v := (.int .i64 kk)) (x_loadB (Tryf.isAgg3 _) rfl bk rfl) rfl (by decide) rfl ?_
      refine lE_call (x_call2 Tryf.func16 (by kernel_rfl) (by kernel_rfl) rfl rfl rfl) rfl (by decide) rfl ?_
      refine Calls.mono (bytesOK16_calls s kk w1 (by omega)) ?_
      intro rr ww hrr; obtain ⟨hr1, hr2⟩ := hrr; rw [hr1, hr2]; refine ⟨_, rfl, ?_⟩
      refine lE_val (v := (.bool false)) (x_not (b := true) rfl) rfl (by decide) rfl ?_
      refine lE_nil ?_
      refine cE_condF rfl (cE_skipT ?_)
      refine cE_seq ?_
      refine cE_list ?_
      refine lE_val (v := (.string s)) (x_move (v := (.string s)) rfl) rfl (by decide) rfl ?_
      refine lE_val (v := (.int .i64 (s.size : Nat))) (x_lenS rfl) rfl (by decide) rfl ?_
      refine lE_val (v := (.bool true)) (by rw [← h3]; exact x_gtr rfl rfl) rfl (by decide) rfl ?_
      refine lE_nil ?_
      refine cE_condT rfl ?_
      refine cE_list ?_
      refine lE_val (v := (.bool true)) (x_assign (v := (.bool true)) rfl) rfl (by decide) rfl ?_
      refine lE_nil ?_
      exact cE_retE1 ⟨rfl, hk1⟩
    · have h3 : decide ((65536 : Int) < ((s.size : Nat) : Int)) = false := by simp; omega
      have hsz : s.size ≤ 65536 := by omega
      refine cE_list ?_
      refine lE_val (v := (.pointer (some ⟨w.heap.size, 0, none⟩))) (x_box3 rfl) rfl (by decide) rfl ?_
      refine lE_val (v := (.bool false)) (x_assign (v := (.bool false)) rfl) rfl (by decide) rfl ?_
      refine lE_nil ?_
      generalize hw1 : w.alloc (.cells #[.int .i64 kk] 3) = w1 at *
      refine cE_seq ?_
      refine cE_list ?_
      refine lE_val (v := (.string s)) (x_move (v := (.string s)) rfl) rfl (by decide) rfl ?_
      refine lE_val (v := (.int .i64 kk)) (x_loadB (Tryf.isAgg3 _) rfl bk rfl) rfl (by decide) rfl ?_
      refine lE_call (x_call2 Tryf.func16 (by kernel_rfl) (by kernel_rfl) rfl rfl rfl) rfl (by decide) rfl ?_
      refine Calls.mono (bytesOK16_calls s kk w1 (by omega)) ?_
      intro rr ww hrr; obtain ⟨hr1, hr2⟩ := hrr; rw [hr1, hr2]; refine ⟨_, rfl, ?_⟩
      refine lE_val (v := (.bool false)) (x_not (b := true) rfl) rfl (by decide) rfl ?_
      refine lE_nil ?_
      refine cE_condF rfl (cE_skipT ?_)
      refine cE_seq ?_
      refine cE_list ?_
      refine lE_val (v := (.string s)) (x_move (v := (.string s)) rfl) rfl (by decide) rfl ?_
      refine lE_val (v := (.int .i64 (s.size : Nat))) (x_lenS rfl) rfl (by decide) rfl ?_
      refine lE_val (v := (.bool false)) (by rw [← h3]; exact x_gtr rfl rfl) rfl (by decide) rfl ?_
      refine lE_nil ?_
      refine cE_condF rfl (cE_skipT ?_)
      refine cE_list ?_
      refine lE_val (v := (.string s)) (x_move (v := (.string s)) rfl) rfl (by decide) rfl ?_
      refine lE_call (x_call1 Tryf.func9 (by kernel_rfl) (by kernel_rfl) rfl rfl) rfl (by decide) rfl ?_
      refine (readAll_calls (hk1.cell hG (fun h => h)) (hk1.cell hT (fun h => h)) hsz (by omega)).mono ?_
      rintro r w2 ⟨vn, vt, hr, hon, hot, hk2⟩
      rw [hr]; refine ⟨_, rfl, ?_⟩
      refine lE_val (v := (.tuple #[vn, vt, (.bool true)])) (x_move (v := (.tuple #[vn, vt, (.bool true)])) rfl) rfl (by decide) rfl ?_
      refine lE_val (v := vn) (x_ext (v := vn) rfl rfl) rfl (by decide) rfl ?_
      refine lE_val (v := vt) (x_ext (v := vt) rfl rfl) rfl (by decide) rfl ?_
      refine lE_val (v := (.bool true)) (x_ext (v := (.bool true)) rfl rfl) rfl (by decide) rfl ?_
      refine lE_val (v := vn) (x_assign (v := vn) rfl) rfl (by decide) rfl ?_
      refine lE_val (v := vt) (x_assign (v := vt) rfl) rfl (by decide) rfl ?_
      refine lE_val (v := (.bool true)) (x_assign (v := (.bool true)) rfl) rfl (by decide) rfl ?_
      refine lE_nil ?_
      refine cE_seq ?_
      refine cE_list ?_
      refine lE_val (v := (.bool true)) (x_move (v := (.bool true)) rfl) rfl (by decide) rfl ?_
      refine lE_val (v := (.bool false)) (x_not (b := true) rfl) rfl (by decide) rfl ?_
      refine lE_nil ?_
      refine cE_condF rfl (cE_skipT ?_)
      refine cE_list ?_
      refine lE_val (v := (.string s)) (x_move (v := (.string s)) rfl) rfl (by decide) rfl ?_
      refine lE_call (x_call1 Tryf.func11 (by kernel_rfl) (by kernel_rfl) rfl rfl) rfl (by decide) rfl ?_
      refine Calls.mono (count_calls hsz w2) ?_
      intro rr ww hrr; obtain ⟨hr1, hr2⟩ := hrr; rw [hr1, hr2]; refine ⟨_, rfl, ?_⟩
      refine lE_val (v := (.int .i64 ((linesOf s.data.toList).length : Nat))) (x_assign (v := (.int .i64 ((linesOf s.data.toList).length : Nat))) rfl) rfl (by decide) rfl ?_
      refine lE_nil ?_
      refine cE_list ?_
      refine lE_call (x_call0 Tryf.func13 (by kernel_rfl) (by kernel_rfl) rfl) rfl (by decide) rfl ?_
      refine (stopErr_calls w2).mono ?_
      rintro r w3 ⟨hr, hw3⟩
      rw [hr]; refine ⟨_, rfl, ?_⟩
      refine lE_val (v := (.pointer (some ⟨w3.heap.size, 0, none⟩))) x_alloc32 rfl (by decide) rfl ?_
      generalize hw4 : w3.alloc (.cells #[.nilIface] 32) = w4 at *
      have b4 : Blk w4 w3.heap.size #[.nilIface] 32 := by rw [← hw4]; exact Blk.alloc_new w3 _ _
      refine lE_skip (x_storeB (v := (.iface 54 (.pointer (some ⟨w2.heap.size, 0, none⟩)))) (Tryf.sizeOf32 _) rfl rfl rfl b4 rfl) rfl rfl ?_
      refine lE_nil ?_
      generalize hw5 : w4.setCell ⟨w3.heap.size, 0, none⟩ (.iface 54 (.pointer (some ⟨w2.heap.size, 0, none⟩))) = w5 at *
      refine cE_list ?_
      refine lE_val (v := (.pointer (some ⟨w5.heap.size, 0, none⟩))) x_alloc25 rfl (by decide) rfl ?_
      refine lE_nil ?_
      generalize hw6 : w5.alloc (.cells #[.slice none 0 0] 25) = w6 at *
      refine cE_list ?_
      refine lE_val (v := (.pointer (some ⟨w6.heap.size, 0, none⟩))) x_alloc23 rfl (by decide) rfl ?_
      refine lE_nil ?_
      generalize hw7 : w6.alloc (.cells #[.slice none 0 0] 23) = w7 at *
      refine cE_list ?_
      have hz3 : w3.heap.size = w2.heap.size + 1 := by rw [hw3]; simp
      have hz4 : w4.heap.size = w3.heap.size + 1 := by rw [← hw4]; simp
      have hz5 : w5.heap.size = w4.heap.size := by rw [← hw5]; simp [World.setCell]
      have hz6 : w6.heap.size = w5.heap.size + 1 := by rw [← hw6]; simp
      have hz7 : w7.heap.size = w6.heap.size + 1 := by rw [← hw7]; simp
      have hz2 : w1.heap.size ≤ w2.heap.size := hk2.size
      have k23 : Keep (fun k => k = w3.heap.size) w2 w3 := by rw [hw3]; exact (Keep.refl _ w2).alloc _
      have k34 : Keep (fun k => k = w3.heap.size) w3 w4 := by rw [← hw4]; exact (Keep.refl _ w3).alloc _
      have k45 : Keep (fun k => k = w3.heap.size) w4 w5 := by rw [← hw5]; exact (Keep.refl (fun k => k = w3.heap.size) w4).setCell rfl _
      have k56 : Keep (fun k => k = w3.heap.size) w5 w6 := by rw [← hw6]; exact (Keep.refl _ w5).alloc _
      have k67 : Keep (fun k => k = w3.heap.size) w6 w7 := by rw [← hw7]; exact (Keep.refl _ w6).alloc _
      have k57 : Keep (fun k => False) w5 w7 := by rw [← hw7, ← hw6]; exact ((Keep.refl _ w5).alloc _).alloc _
      have k27 : Keep (fun _ => False) w2 w7 := ((((k23.trans k34).trans k45).trans k56).trans k67).mono fun k hk e => by omega
      have k17 : Keep (fun _ => False) w1 w7 := hk2.trans k27
      have k07 : Keep (fun _ => False) w w7 := hk1.trans k17
      have b4' : Blk w5 w3.heap.size #[.iface 54 (.pointer (some ⟨w2.heap.size, 0, none⟩))] 32 := by rw [← hw5]; exact b4.setCell 0 _
      have bs' : Blk w3 w2.heap.size #[.string ⟨#[115, 116, 111, 112]⟩] 56 := by rw [hw3]; exact Blk.alloc_new w2 _ _
      have hB7 : 7 ≤ w2.heap.size := by omega
      have hG7 := k07.cell hG (fun h => h)
      have hT7 := k07.cell hT (fun h => h)
      have hg7 : Got w7 w2.heap.size w5.heap.size w6.heap.size w.heap.size w3.heap.size w7.heap.size w2.heap.size ⟨#[115, 116, 111, 112]⟩ kk [] :=
        { rows := ⟨.slice none 0 0, .slice none 0 0, by rw [← hw7]; exact Blk.alloc (by rw [← hw6]; exact Blk.alloc_new w5 _ _) _, World.ownsRow_nil _ _ _ _, by rw [← hw7]; exact Blk.alloc_new w6 _ _, World.ownsRow_nil _ _ _ _⟩,
          hk := k17.blk bk (fun h => h), hs := k57.blk b4' (fun h => h), ht := (((k34.trans k45).trans k56).trans k67).blk bs' (by omega), lo := ⟨by omega, by omega, by omega⟩, hi := ⟨by omega, Nat.le_refl _⟩ }
      have hon7 : w7.ownsRow w1.heap.size 3 1 vn (linesOf s.data.toList).length (numsV (linesOf s.data.toList).length) := ownsRow_kept hon (fun g hg => by obtain ⟨_, cs, hb⟩ := ownsRow_block hon hg; exact k27.block g hb.lt (fun h => h))
      have hot7 : w7.ownsRow w1.heap.size 9 1 vt (linesOf s.data.toList).length ((linesOf s.data.toList).map strV) := ownsRow_kept hot (fun g hg => by obtain ⟨_, cs, hb⟩ := ownsRow_block hot hg; exact k27.block g hb.lt (fun h => h))
      have hnb : ∀ g, vn.ownBlock = some g → g < w2.heap.size := fun g hg => by obtain ⟨_, cs, hb⟩ := ownsRow_block hon hg; exact hb.lt
      have htb : ∀ g, vt.ownBlock = some g → g < w2.heap.size := fun g hg => by obtain ⟨_, cs, hb⟩ := ownsRow_block hot hg; exact hb.lt
      refine lE_val (v := (.string s)) (x_move (v := (.string s)) rfl) rfl (by decide) rfl ?_
      refine lE_val (v := (.func (.func 17) #[] #[(.pointer (some ⟨w5.heap.size, 0, none⟩)), (.pointer (some ⟨w6.heap.size, 0, none⟩)), (.pointer (some ⟨w.heap.size, 0, none⟩)), (.pointer (some ⟨w3.heap.size, 0, none⟩))])) (x_mkfunc rfl rfl rfl rfl) rfl (by decide) rfl ?_
      refine lE_call (x_call2 Tryf.func14 (by kernel_rfl) (by kernel_rfl) rfl rfl rfl) rfl (by decide) rfl ?_
      refine (eachStr_calls Tryf.func17 (by kernel_rfl) (by kernel_rfl) (fun h line hn => callback17 h line hn) hG7 hT7 hsz hB7 (by omega) hg7).mono ?_
      rintro r w8 ⟨xs, hgot, hk8, hend⟩
      have hll : (linesOf s.data.toList).length ≤ 65536 := Nat.le_trans (linesOf_length _) hsz
      generalize hlines : linesOf s.data.toList = lines at *
      have hon8 : w8.ownsRow w1.heap.size 3 1 vn lines.length (numsV lines.length) := ownsRow_kept hon7 (fun g hg => hk8.block g (by have := hnb g hg; omega) (fun h => by have := hnb g hg; omega))
      have hot8 : w8.ownsRow w1.heap.size 9 1 vt lines.length (lines.map strV) := ownsRow_kept hot7 (fun g hg => hk8.block g (by have := htb g hg; omega) (fun h => by have := htb g hg; omega))
      have k08 : Keep (fun _ => False) w w8 := k07.trans' hk8 (fun k hk h => by omega)
      have bk8 := hgot.hk
      obtain ⟨u1, u2, c1, o1, c2, o2⟩ := hgot.rows
      rcases hend with ⟨k, hk1', hk2', hkk, hxs, te, tv, hr⟩ | ⟨hno, hxs, hr⟩
      · have h5 : decide ((1 : Int) ≤ kk) = true := by simp; omega
        have h6 : decide (kk ≤ ((lines.length : Nat) : Int)) = true := by simp; omega
        have hxl : xs.length = k := by rw [hxs, List.length_take]; omega
        have h7 : (((xs.length : Nat) : Int) != kk) = false := by rw [bne_eq_false_iff_eq, hxl, hkk]
        rw [hr]; refine ⟨_, rfl, ?_⟩
        refine lE_val (v := (.iface te tv)) (x_assign (v := (.iface te tv)) rfl) rfl (by decide) rfl ?_
        refine lE_nil ?_
        refine cE_list ?_
        refine lE_val (v := (.int .i64 (lines.length : Nat))) (x_move (v := (.int .i64 (lines.length : Nat))) rfl) rfl (by decide) rfl ?_
        refine lE_val (v := (.int .i64 (lines.length : Nat))) (x_assign (v := (.int .i64 (lines.length : Nat))) rfl) rfl (by decide) rfl ?_
        refine lE_nil ?_
        refine cE_list ?_
        refine lE_val (v := (.bool false)) (x_assign (v := (.bool false)) rfl) rfl (by decide) rfl ?_
        refine lE_nil ?_
        refine cE_seq ?_
        refine cE_list ?_
        refine lE_val (v := (.int .i64 kk)) (x_loadB (Tryf.isAgg3 _) rfl bk8 rfl) rfl (by decide) rfl ?_
        refine lE_val (v := (.bool true)) (by rw [← h5]; exact x_geq rfl rfl) rfl (by decide) rfl ?_
        refine lE_val (v := (.bool true)) (x_move (v := (.bool true)) rfl) rfl (by decide) rfl ?_
        refine lE_gval (v := (.int .i64 kk)) (x_loadB (Tryf.isAgg3 _) rfl bk8 rfl) rfl (by decide) rfl rfl (by decide) rfl ?_
        refine lE_gval (v := (.int .i64 (lines.length : Nat))) (x_move (v := (.int .i64 (lines.length : Nat))) rfl) rfl (by decide) rfl rfl (by decide) rfl ?_
        refine lE_gval (v := (.bool true)) (by rw [← h6]; exact x_leq rfl rfl) rfl (by decide) rfl rfl (by decide) rfl ?_
        refine lE_val (v := (.bool true)) (x_pickT (v := (.bool true)) rfl rfl) rfl (by decide) rfl ?_
        refine lE_nil ?_
        refine cE_condT rfl ?_
        refine cE_list ?_
        refine lE_val (v := (.int .i64 kk)) (x_loadB (Tryf.isAgg3 _) rfl bk8 rfl) rfl (by decide) rfl ?_
        refine lE_val (v := (.int .i64 kk)) (x_assign (v := (.int .i64 kk)) rfl) rfl (by decide) rfl ?_
        refine lE_nil ?_
        refine cE_list_lastT ?_
        refine lE_val (v := (.bool true)) (x_assign (v := (.bool true)) rfl) rfl (by decide) rfl ?_
        refine lE_nil ?_
        refine cE_seq ?_
        refine cE_list ?_
        refine lE_val (v := (.iface te tv)) (x_move (v := (.iface te tv)) rfl) rfl (by decide) rfl ?_
        refine lE_val (v := (.bool true)) (x_neqnil' rfl rfl) rfl (by decide) rfl ?_
        refine lE_val (v := (.bool true)) (x_move (v := (.bool true)) rfl) rfl (by decide) rfl ?_
        refine lE_val (v := (.bool false)) (x_neq4s rfl rfl) rfl (by decide) rfl ?_
        refine lE_val (v := (.bool false)) (x_move (v := (.bool false)) rfl) rfl (by decide) rfl ?_
        refine lE_gval (v := u1) (x_loadB (Tryf.isAgg25 _) rfl c1 rfl) rfl (by decide) rfl rfl (by decide) rfl ?_
        refine lE_gval (v := (.int .i64 (xs.length : Nat))) (x_lenRow25 rfl o1) rfl (by decide) rfl rfl (by decide) rfl ?_
        refine lE_gval (v := (.int .i64 kk)) (x_move (v := (.int .i64 kk)) rfl) rfl (by decide) rfl rfl (by decide) rfl ?_
        refine lE_gval (v := (.bool false)) (by rw [← h7]; exact x_neq3 rfl rfl) rfl (by decide) rfl rfl (by decide) rfl ?_
        refine lE_val (v := (.bool false)) (x_pickF (v := (.bool false)) rfl rfl) rfl (by decide) rfl ?_
        refine lE_val (v := (.bool false)) (x_move (v := (.bool false)) rfl) rfl (by decide) rfl ?_
        refine lE_gval (v := u2) (x_loadB (Tryf.isAgg23 _) rfl c2 rfl) rfl (by decide) rfl rfl (by decide) rfl ?_
        refine lE_gval (v := (.int .i64 (xs.length : Nat))) (x_lenRow23 rfl o2) rfl (by decide) rfl rfl (by decide) rfl ?_
        refine lE_gval (v := (.int .i64 kk)) (x_move (v := (.int .i64 kk)) rfl) rfl (by decide) rfl rfl (by decide) rfl ?_
        refine lE_gval (v := (.bool false)) (by rw [← h7]; exact x_neq3 rfl rfl) rfl (by decide) rfl rfl (by decide) rfl ?_
        refine lE_val (v := (.bool false)) (x_pickF (v := (.bool false)) rfl rfl) rfl (by decide) rfl ?_
        refine lE_val (v := (.bool false)) (x_move (v := (.bool false)) rfl) rfl (by decide) rfl ?_
        refine lE_gval (v := vn) (x_move (v := vn) rfl) rfl (by decide) rfl rfl (by decide) rfl ?_
        refine lE_gval (v := (.int .i64 (lines.length : Nat))) (x_lenRow25 rfl hon8) rfl (by decide) rfl rfl (by decide) rfl ?_
        refine lE_gval (v := (.int .i64 (lines.length : Nat))) (x_move (v := (.int .i64 (lines.length : Nat))) rfl) rfl (by decide) rfl rfl (by decide) rfl ?_
        refine lE_gval (v := (.bool false)) (x_neq3s rfl rfl) rfl (by decide) rfl rfl (by decide) rfl ?_
        refine lE_val (v := (.bool false)) (x_pickF (v := (.bool false)) rfl rfl) rfl (by decide) rfl ?_
        refine lE_val (v := (.bool false)) (x_move (v := (.bool false)) rfl) rfl (by decide) rfl ?_
        refine lE_gval (v := vt) (x_move (v := vt) rfl) rfl (by decide) rfl rfl (by decide) rfl ?_
        refine lE_gval (v := (.int .i64 (lines.length : Nat))) (x_lenRow23 rfl hot8) rfl (by decide) rfl rfl (by decide) rfl ?_
        refine lE_gval (v := (.int .i64 (lines.length : Nat))) (x_move (v := (.int .i64 (lines.length : Nat))) rfl) rfl (by decide) rfl rfl (by decide) rfl ?_
        refine lE_gval (v := (.bool false)) (x_neq3s rfl rfl) rfl (by decide) rfl rfl (by decide) rfl ?_
        refine lE_val (v := (.bool false)) (x_pickF (v := (.bool false)) rfl rfl) rfl (by decide) rfl ?_
        refine lE_nil ?_
        refine cE_condF rfl (cE_skipT ?_)
        refine cE_seq ?_
        refine cE_list ?_
        refine lE_val (v := (.int .i64 0)) (x_assign (v := (.int .i64 0)) rfl) rfl (by decide) rfl ?_
        refine lE_nil ?_
        refine agrees_loop (c := _) (lines := lines) (xs := xs) (w0 := w) rfl (by omega) (fun i hi => by rw [hxs]; exact List.getElem?_take_of_lt (by omega)) hll ⟨0, rfl, rfl, rfl, rfl, by rw [hxl, ← hkk]; rfl, rfl, Nat.zero_le _, rfl, hgot, hon8, hot8, k08⟩ ?_
        intro E' w' hK'
        exact agrees_tail rfl hK'
      · have h7 : (((xs.length : Nat) : Int) != ((lines.length : Nat) : Int)) = false := by rw [bne_eq_false_iff_eq, hxs]
        by_cases hlow : kk < 1
        · have h5 : decide ((1 : Int) ≤ kk) = false := by simp; omega
          rw [hr]; refine ⟨_, rfl, ?_⟩
          refine lE_val (v := .nilIface) (x_assign (v := .nilIface) rfl) rfl (by decide) rfl ?_
          refine lE_nil ?_
          refine cE_list ?_
          refine lE_val (v := (.int .i64 (lines.length : Nat))) (x_move (v := (.int .i64 (lines.length : Nat))) rfl) rfl (by decide) rfl ?_
          refine lE_val (v := (.int .i64 (lines.length : Nat))) (x_assign (v := (.int .i64 (lines.length : Nat))) rfl) rfl (by decide) rfl ?_
          refine lE_nil ?_
          refine cE_list ?_
          refine lE_val (v := (.bool false)) (x_assign (v := (.bool false)) rfl) rfl (by decide) rfl ?_
          refine lE_nil ?_
          refine cE_seq ?_
          refine cE_list ?_
          refine lE_val (v := (.int .i64 kk)) (x_loadB (Tryf.isAgg3 _) rfl bk8 rfl) rfl (by decide) rfl ?_
          refine lE_val (v := (.bool false)) (by rw [← h5]; exact x_geq rfl rfl) rfl (by decide) rfl ?_
          refine lE_val (v := (.bool false)) (x_move (v := (.bool false)) rfl) rfl (by decide) rfl ?_
          refine lE_gskip rfl (by decide) rfl rfl (by decide) (.inl rfl) ?_
          refine lE_gskip rfl (by decide) rfl rfl (by decide) (.inl rfl) ?_
          refine lE_gskip rfl (by decide) rfl rfl (by decide) (.inl rfl) ?_
          refine lE_val (v := (.bool false)) (x_pickF (v := (.bool false)) rfl rfl) rfl (by decide) rfl ?_
          refine lE_nil ?_
          refine cE_condF rfl (cE_skipT ?_)
          refine cE_seq ?_
          refine cE_list ?_
          refine lE_val (v := .nilIface) (x_move (v := .nilIface) rfl) rfl (by decide) rfl ?_
          refine lE_val (v := (.bool false)) (x_neqnil rfl rfl) rfl (by decide) rfl ?_
          refine lE_val (v := (.bool false)) (x_move (v := (.bool false)) rfl) rfl (by decide) rfl ?_
          refine lE_val (v := (.bool false)) (x_neq4s rfl rfl) rfl (by decide) rfl ?_
          refine lE_val (v := (.bool false)) (x_move (v := (.bool false)) rfl) rfl (by decide) rfl ?_
          refine lE_gval (v := u1) (x_loadB (Tryf.isAgg25 _) rfl c1 rfl) rfl (by decide) rfl rfl (by decide) rfl ?_
          refine lE_gval (v := (.int .i64 (xs.length : Nat))) (x_lenRow25 rfl o1) rfl (by decide) rfl rfl (by decide) rfl ?_
          refine lE_gval (v := (.int .i64 (lines.length : Nat))) (x_move (v := (.int .i64 (lines.length : Nat))) rfl) rfl (by decide) rfl rfl (by decide) rfl ?_
          refine lE_gval (v := (.bool false)) (by rw [← h7]; exact x_neq3 rfl rfl) rfl (by decide) rfl rfl (by decide) rfl ?_
          refine lE_val (v := (.bool false)) (x_pickF (v := (.bool false)) rfl rfl) rfl (by decide) rfl ?_
          refine lE_val (v := (.bool false)) (x_move (v := (.bool false)) rfl) rfl (by decide) rfl ?_
          refine lE_gval (v := u2) (x_loadB (Tryf.isAgg23 _) rfl c2 rfl) rfl (by decide) rfl rfl (by decide) rfl ?_
          refine lE_gval (v := (.int .i64 (xs.length : Nat))) (x_lenRow23 rfl o2) rfl (by decide) rfl rfl (by decide) rfl ?_
          refine lE_gval (v := (.int .i64 (lines.length : Nat))) (x_move (v := (.int .i64 (lines.length : Nat))) rfl) rfl (by decide) rfl rfl (by decide) rfl ?_
          refine lE_gval (v := (.bool false)) (by rw [← h7]; exact x_neq3 rfl rfl) rfl (by decide) rfl rfl (by decide) rfl ?_
          refine lE_val (v := (.bool false)) (x_pickF (v := (.bool false)) rfl rfl) rfl (by decide) rfl ?_
          refine lE_val (v := (.bool false)) (x_move (v := (.bool false)) rfl) rfl (by decide) rfl ?_
          refine lE_gval (v := vn) (x_move (v := vn) rfl) rfl (by decide) rfl rfl (by decide) rfl ?_
          refine lE_gval (v := (.int .i64 (lines.length : Nat))) (x_lenRow25 rfl hon8) rfl (by decide) rfl rfl (by decide) rfl ?_
          refine lE_gval (v := (.int .i64 (lines.length : Nat))) (x_move (v := (.int .i64 (lines.length : Nat))) rfl) rfl (by decide) rfl rfl (by decide) rfl ?_
          refine lE_gval (v := (.bool false)) (x_neq3s rfl rfl) rfl (by decide) rfl rfl (by decide) rfl ?_
          refine lE_val (v := (.bool false)) (x_pickF (v := (.bool false)) rfl rfl) rfl (by decide) rfl ?_
          refine lE_val (v := (.bool false)) (x_move (v := (.bool false)) rfl) rfl (by decide) rfl ?_
          refine lE_gval (v := vt) (x_move (v := vt) rfl) rfl (by decide) rfl rfl (by decide) rfl ?_
          refine lE_gval (v := (.int .i64 (lines.length : Nat))) (x_lenRow23 rfl hot8) rfl (by decide) rfl rfl (by decide) rfl ?_
          refine lE_gval (v := (.int .i64 (lines.length : Nat))) (x_move (v := (.int .i64 (lines.length : Nat))) rfl) rfl (by decide) rfl rfl (by decide) rfl ?_
          refine lE_gval (v := (.bool false)) (x_neq3s rfl rfl) rfl (by decide) rfl rfl (by decide) rfl ?_
          refine lE_val (v := (.bool false)) (x_pickF (v := (.bool false)) rfl rfl) rfl (by decide) rfl ?_
          refine lE_nil ?_
          refine cE_condF rfl (cE_skipT ?_)
          refine cE_seq ?_
          refine cE_list ?_
          refine lE_val (v := (.int .i64 0)) (x_assign (v := (.int .i64 0)) rfl) rfl (by decide) rfl ?_
          refine lE_nil ?_
          refine agrees_loop (c := _) (lines := lines) (xs := xs) (w0 := w) rfl (by rw [hxs]; exact Nat.le_refl _) (fun i hi => by rw [hxs]) hll ⟨0, rfl, rfl, rfl, rfl, by rw [hxs]; rfl, rfl, Nat.zero_le _, rfl, hgot, hon8, hot8, k08⟩ ?_
          intro E' w' hK'
          exact agrees_tail rfl hK'
        · have h5 : decide ((1 : Int) ≤ kk) = true := by simp; omega
          have h6 : decide (kk ≤ ((lines.length : Nat) : Int)) = false := by
            rw [decide_eq_false_iff_not]
            intro hle
            exact hno kk.toNat (by omega) (by omega) (by omega)
          rw [hr]; refine ⟨_, rfl, ?_⟩
          refine lE_val (v := .nilIface) (x_assign (v := .nilIface) rfl) rfl (by decide) rfl ?_
          refine lE_nil ?_
          refine cE_list ?_
          refine lE_val (v := (.int .i64 (lines.length : Nat))) (x_move (v := (.int .i64 (lines.length : Nat))) rfl) rfl (by decide) rfl ?_
          refine lE_val (v := (.int .i64 (lines.length : Nat))) (x_assign (v := (.int .i64 (lines.length : Nat))) rfl) rfl (by decide) rfl ?_
          refine lE_nil ?_
          refine cE_list ?_
          refine lE_val (v := (.bool false)) (x_assign (v := (.bool false)) rfl) rfl (by decide) rfl ?_
          refine lE_nil ?_
          refine cE_seq ?_
          refine cE_list ?_
          refine lE_val (v := (.int .i64 kk)) (x_loadB (Tryf.isAgg3 _) rfl bk8 rfl) rfl (by decide) rfl ?_
          refine lE_val (v := (.bool true)) (by rw [← h5]; exact x_geq rfl rfl) rfl (by decide) rfl ?_
          refine lE_val (v := (.bool true)) (x_move (v := (.bool true)) rfl) rfl (by decide) rfl ?_
          refine lE_gval (v := (.int .i64 kk)) (x_loadB (Tryf.isAgg3 _) rfl bk8 rfl) rfl (by decide) rfl rfl (by decide) rfl ?_
          refine lE_gval (v := (.int .i64 (lines.length : Nat))) (x_move (v := (.int .i64 (lines.length : Nat))) rfl) rfl (by decide) rfl rfl (by decide) rfl ?_
          refine lE_gval (v := (.bool false)) (by rw [← h6]; exact x_leq rfl rfl) rfl (by decide) rfl rfl (by decide) rfl ?_
          refine lE_val (v := (.bool false)) (x_pickT (v := (.bool false)) rfl rfl) rfl (by decide) rfl ?_
          refine lE_nil ?_
          refine cE_condF rfl (cE_skipT ?_)
          refine cE_seq ?_
          refine cE_list ?_
          refine lE_val (v := .nilIface) (x_move (v := .nilIface) rfl) rfl (by decide) rfl ?_
          refine lE_val (v := (.bool false)) (x_neqnil rfl rfl) rfl (by decide) rfl ?_
          refine lE_val (v := (.bool false)) (x_move (v := (.bool false)) rfl) rfl (by decide) rfl ?_
          refine lE_val (v := (.bool false)) (x_neq4s rfl rfl) rfl (by decide) rfl ?_
          refine lE_val (v := (.bool false)) (x_move (v := (.bool false)) rfl) rfl (by decide) rfl ?_
          refine lE_gval (v := u1) (x_loadB (Tryf.isAgg25 _) rfl c1 rfl) rfl (by decide) rfl rfl (by decide) rfl ?_
          refine lE_gval (v := (.int .i64 (xs.length : Nat))) (x_lenRow25 rfl o1) rfl (by decide) rfl rfl (by decide) rfl ?_
          refine lE_gval (v := (.int .i64 (lines.length : Nat))) (x_move (v := (.int .i64 (lines.length : Nat))) rfl) rfl (by decide) rfl rfl (by decide) rfl ?_
          refine lE_gval (v := (.bool false)) (by rw [← h7]; exact x_neq3 rfl rfl) rfl (by decide) rfl rfl (by decide) rfl ?_
          refine lE_val (v := (.bool false)) (x_pickF (v := (.bool false)) rfl rfl) rfl (by decide) rfl ?_
          refine lE_val (v := (.bool false)) (x_move (v := (.bool false)) rfl) rfl (by decide) rfl ?_
          refine lE_gval (v := u2) (x_loadB (Tryf.isAgg23 _) rfl c2 rfl) rfl (by decide) rfl rfl (by decide) rfl ?_
          refine lE_gval (v := (.int .i64 (xs.length : Nat))) (x_lenRow23 rfl o2) rfl (by decide) rfl rfl (by decide) rfl ?_
          refine lE_gval (v := (.int .i64 (lines.length : Nat))) (x_move (v := (.int .i64 (lines.length : Nat))) rfl) rfl (by decide) rfl rfl (by decide) rfl ?_
          refine lE_gval (v := (.bool false)) (by rw [← h7]; exact x_neq3 rfl rfl) rfl (by decide) rfl rfl (by decide) rfl ?_
          refine lE_val (v := (.bool false)) (x_pickF (v := (.bool false)) rfl rfl) rfl (by decide) rfl ?_
          refine lE_val (v := (.bool false)) (x_move (v := (.bool false)) rfl) rfl (by decide) rfl ?_
          refine lE_gval (v := vn) (x_move (v := vn) rfl) rfl (by decide) rfl rfl (by decide) rfl ?_
          refine lE_gval (v := (.int .i64 (lines.length : Nat))) (x_lenRow25 rfl hon8) rfl (by decide) rfl rfl (by decide) rfl ?_
          refine lE_gval (v := (.int .i64 (lines.length : Nat))) (x_move (v := (.int .i64 (lines.length : Nat))) rfl) rfl (by decide) rfl rfl (by decide) rfl ?_
          refine lE_gval (v := (.bool false)) (x_neq3s rfl rfl) rfl (by decide) rfl rfl (by decide) rfl ?_
          refine lE_val (v := (.bool false)) (x_pickF (v := (.bool false)) rfl rfl) rfl (by decide) rfl ?_
          refine lE_val (v := (.bool false)) (x_move (v := (.bool false)) rfl) rfl (by decide) rfl ?_
          refine lE_gval (v := vt) (x_move (v := vt) rfl) rfl (by decide) rfl rfl (by decide) rfl ?_
          refine lE_gval (v := (.int .i64 (lines.length : Nat))) (x_lenRow23 rfl hot8) rfl (by decide) rfl rfl (by decide) rfl ?_
          refine lE_gval (v := (.int .i64 (lines.length : Nat))) (x_move (v := (.int .i64 (lines.length : Nat))) rfl) rfl (by decide) rfl rfl (by decide) rfl ?_
          refine lE_gval (v := (.bool false)) (x_neq3s rfl rfl) rfl (by decide) rfl rfl (by decide) rfl ?_
          refine lE_val (v := (.bool false)) (x_pickF (v := (.bool false)) rfl rfl) rfl (by decide) rfl ?_
          refine lE_nil ?_
          refine cE_condF rfl (cE_skipT ?_)
          refine cE_seq ?_
          refine cE_list ?_
          refine lE_val (v := (.int .i64 0)) (x_assign (v := (.int .i64 0)) rfl) rfl (by decide) rfl ?_
          refine lE_nil ?_
          refine agrees_loop (c := _) (lines := lines) (xs := xs) (w0 := w) rfl (by rw [hxs]; exact Nat.le_refl _) (fun i hi => by rw [hxs]) hll ⟨0, rfl, rfl, rfl, rfl, by rw [hxs]; rfl, rfl, Nat.zero_le _, rfl, hgot, hon8, hot8, k08⟩ ?_
          intro E' w' hK'
          exact agrees_tail rfl hK'
end Go.Proofs.Qxb6613145aFmt
