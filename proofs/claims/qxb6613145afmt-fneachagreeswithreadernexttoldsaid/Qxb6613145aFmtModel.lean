import Derived.Test.Qxb6613145aFmtEach
namespace Go.Proofs.Qxb6613145aFmt
open Go.RowKit
set_option maxRecDepth 100000
section
variable {ρ : Operand → Value} {dst : Option Tmp} {ty : TypeId} {pos : String} {after : Array Edge} {g : Option (Nat × Bool)} {w : World}
theorem x_idxS {x y : Operand} {t : ByteArray} {i : Nat} (h : ρ x = .string t) (h' : ρ y = .int .i64 (i : Nat)) (hi : i < t.size) : (execOp ρ ⟨dst, .index 9 x y, ty, pos, after, g⟩).run Tryf.prog w = .ok (.value (byteV (t.data.toList.getD i 0))) w := by
  have e : t.data.toList.getD i 0 = t[i] := by
    rw [List.getD_eq_getElem?_getD, List.getElem?_eq_getElem (by exact hi)]; rfl
  rw [e]
  simp [go_sem, h, h', hi, byteV]
theorem x_sliceST {x y : Operand} {s : ByteArray} {j : Nat} (h : ρ x = .string s) (h' : ρ y = .int .i64 (j : Nat)) (hj : j ≤ s.size) :
    (execOp ρ ⟨dst, .slice 9 x none (some y) none, ty, pos, after, g⟩).run Tryf.prog w = .ok (.value (.string (s.extract 0 j))) w := by
  simp [go_sem, h, h', hj]
theorem x_sliceSB {x y z : Operand} {s : ByteArray} {i j : Nat} (h : ρ x = .string s) (hy : ρ y = .int .i64 (i : Nat)) (hz : ρ z = .int .i64 (j : Nat)) (hij : i ≤ j) (hj : j ≤ s.size) :
    (execOp ρ ⟨dst, .slice 9 x (some y) (some z) none, ty, pos, after, g⟩).run Tryf.prog w = .ok (.value (.string (s.extract i j))) w := by
  simp [go_sem, h, hy, hz, hij, hj]
end
theorem strB_data (s : ByteArray) : strB s.data.toList = s := rfl
theorem extract_strB (s : ByteArray) (a b : Nat) : s.extract a b = strB ((s.data.toList.drop a).take (b - a)) := by
  apply ByteArray.ext
  apply Array.toList_inj.1
  rw [ByteArray.data_extract]
  simp only [Array.toList_extract, List.extract_eq_take_drop]
  rfl

theorem zzDropCR_calls {w : World} {t : ByteArray} (hbig : t.size ≤ 1000000) : Calls Tryf.prog 18 #[.string t] w fun r w' => r = .returned (.string (strB (dropCRl t.data.toList))) ∧ w' = w := by
  refine calls_E Tryf.func18 rfl Tryf.ntmps18 (by simp) (env1 _) _ (res1 Tryf.results18) ?_
  have hlen : t.data.toList.length = t.size := rfl
  by_cases h0 : t.size = 0
  · have h1 : decide (0 < ((t.size : Nat) : Int)) = false := by rw [decide_eq_false_iff_not]; omega
    have hx : t.data.toList = [] := List.length_eq_zero_iff.1 (by omega)
    have hres : strB (dropCRl t.data.toList) = t := by rw [← strB_data t, hx]; rfl
    refine cE_list ?_
    refine lE_val (v := (.string ⟨#[]⟩)) (x_assign (v := (.string ⟨#[]⟩)) rfl) rfl (by decide) rfl ?_
    refine lE_nil ?_
    refine cE_seq ?_
    refine cE_list ?_
    refine lE_val (v := (.string t)) (x_move (v := (.string t)) rfl) rfl (by decide) rfl ?_
    refine lE_val (v := (.int .i64 (t.size : Nat))) (x_lenS rfl) rfl (by decide) rfl ?_
    refine lE_val (v := (.bool false)) (by rw [← h1]; exact x_gtr rfl rfl) rfl (by decide) rfl ?_
    refine lE_val (v := (.bool false)) (x_move (v := (.bool false)) rfl) rfl (by decide) rfl ?_
    refine lE_gskip rfl (by decide) rfl rfl (by decide) (.inl rfl) ?_
    refine lE_gskip rfl (by decide) rfl rfl (by decide) (.inl rfl) ?_
    refine lE_gskip rfl (by decide) rfl rfl (by decide) (.inl rfl) ?_
    refine lE_gskip rfl (by decide) rfl rfl (by decide) (.inl rfl) ?_
    refine lE_gskip rfl (by decide) rfl rfl (by decide) (.inl rfl) ?_
    refine lE_gskip rfl (by decide) rfl rfl (by decide) (.inl rfl) ?_
    refine lE_val (v := (.bool false)) (x_pickF (v := (.bool false)) rfl rfl) rfl (by decide) rfl ?_
    refine lE_nil ?_
    refine cE_condF rfl (cE_skipT ?_)
    refine cE_list ?_
    refine lE_val (v := (.string t)) (x_move (v := (.string t)) rfl) rfl (by decide) rfl ?_
    refine lE_val (v := (.string t)) (x_assign (v := (.string t)) rfl) rfl (by decide) rfl ?_
    refine lE_nil ?_
    exact cE_retE ⟨by rw [hres]; rfl, rfl⟩
  · have h1 : decide (0 < ((t.size : Nat) : Int)) = true := by rw [decide_eq_true_eq]; omega
    have hlast : t.data.toList.getLast? = some (t.data.toList.getD (t.size - 1) 0) := by
      rw [List.getLast?_eq_getElem?, hlen, List.getD_eq_getElem?_getD, List.getElem?_eq_getElem (by omega)]
      rfl
    by_cases hx : t.data.toList.getD (t.size - 1) 0 = 13
    · have h2 : ((((t.data.toList.getD (t.size - 1) 0).toNat : Nat) : Int) == 13) = true := by rw [hx]; rfl
      have hres : strB (dropCRl t.data.toList) = t.extract 0 (t.size - 1) := by
        rw [extract_strB]
        unfold dropCRl
        rw [hlast, if_pos (by rw [hx]), List.dropLast_eq_take]
        rfl
      refine cE_list ?_
      refine lE_val (v := (.string ⟨#[]⟩)) (x_assign (v := (.string ⟨#[]⟩)) rfl) rfl (by decide) rfl ?_
      refine lE_nil ?_
      refine cE_seq ?_
      refine cE_list ?_
      refine lE_val (v := (.string t)) (x_move (v := (.string t)) rfl) rfl (by decide) rfl ?_
      refine lE_val (v := (.int .i64 (t.size : Nat))) (x_lenS rfl) rfl (by decide) rfl ?_
      refine lE_val (v := (.bool true)) (by rw [← h1]; exact x_gtr rfl rfl) rfl (by decide) rfl ?_
      refine lE_val (v := (.bool true)) (x_move (v := (.bool true)) rfl) rfl (by decide) rfl ?_
      refine lE_gval (v := (.string t)) (x_move (v := (.string t)) rfl) rfl (by decide) rfl rfl (by decide) rfl ?_
      refine lE_gval (v := (.string t)) (x_move (v := (.string t)) rfl) rfl (by decide) rfl rfl (by decide) rfl ?_
      refine lE_gval (v := (.int .i64 (t.size : Nat))) (x_lenS rfl) rfl (by decide) rfl rfl (by decide) rfl ?_
      refine lE_gval (v := (.int .i64 (t.size - 1 : Nat))) (x_sub (r := ((t.size - 1 : Nat) : Int)) rfl rfl (by omega) (by omega) (by omega)) rfl (by decide) rfl rfl (by decide) rfl ?_
      refine lE_gval (v := (byteV (t.data.toList.getD (t.size - 1) 0))) (x_idxS rfl rfl (by omega)) rfl (by decide) rfl rfl (by decide) rfl ?_
      refine lE_gval (v := (.bool true)) (by rw [← h2]; exact x_eqlu8 rfl rfl) rfl (by decide) rfl rfl (by decide) rfl ?_
      refine lE_val (v := (.bool true)) (x_pickT (v := (.bool true)) rfl rfl) rfl (by decide) rfl ?_
      refine lE_nil ?_
      refine cE_condT rfl ?_
      refine cE_list ?_
      refine lE_val (v := (.string t)) (x_move (v := (.string t)) rfl) rfl (by decide) rfl ?_
      refine lE_val (v := (.string t)) (x_move (v := (.string t)) rfl) rfl (by decide) rfl ?_
      refine lE_val (v := (.int .i64 (t.size : Nat))) (x_lenS rfl) rfl (by decide) rfl ?_
      refine lE_val (v := (.int .i64 (t.size - 1 : Nat))) (x_sub (r := ((t.size - 1 : Nat) : Int)) rfl rfl (by omega) (by omega) (by omega)) rfl (by decide) rfl ?_
      refine lE_val (v := (.string (t.extract 0 (t.size - 1)))) (x_sliceST rfl rfl (by omega)) rfl (by decide) rfl ?_
      refine lE_val (v := (.string (t.extract 0 (t.size - 1)))) (x_assign (v := (.string (t.extract 0 (t.size - 1)))) rfl) rfl (by decide) rfl ?_
      refine lE_nil ?_
      exact cE_retE1 ⟨by rw [hres]; rfl, rfl⟩
    · have h2 : ((((t.data.toList.getD (t.size - 1) 0).toNat : Nat) : Int) == 13) = false := by
        rw [beq_eq_false_iff_ne]
        intro e
        apply hx
        apply UInt8.toNat_inj.1
        have : (13 : UInt8).toNat = 13 := rfl
        omega
      have hres : strB (dropCRl t.data.toList) = t := by
        unfold dropCRl
        rw [hlast, if_neg (by intro e; exact hx (Option.some.inj e))]
        rfl
      refine cE_list ?_
      refine lE_val (v := (.string ⟨#[]⟩)) (x_assign (v := (.string ⟨#[]⟩)) rfl) rfl (by decide) rfl ?_
      refine lE_nil ?_
      refine cE_seq ?_
      refine cE_list ?_
      refine lE_val (v := (.string t)) (x_move (v := (.string t)) rfl) rfl (by decide) rfl ?_
      refine lE_val (v := (.int .i64 (t.size : Nat))) (x_lenS rfl) rfl (by decide) rfl ?_
      refine lE_val (v := (.bool true)) (by rw [← h1]; exact x_gtr rfl rfl) rfl (by decide) rfl ?_
      refine lE_val (v := (.bool true)) (x_move (v := (.bool true)) rfl) rfl (by decide) rfl ?_
      refine lE_gval (v := (.string t)) (x_move (v := (.string t)) rfl) rfl (by decide) rfl rfl (by decide) rfl ?_
      refine lE_gval (v := (.string t)) (x_move (v := (.string t)) rfl) rfl (by decide) rfl rfl (by decide) rfl ?_
      refine lE_gval (v := (.int .i64 (t.size : Nat))) (x_lenS rfl) rfl (by decide) rfl rfl (by decide) rfl ?_
      refine lE_gval (v := (.int .i64 (t.size - 1 : Nat))) (x_sub (r := ((t.size - 1 : Nat) : Int)) rfl rfl (by omega) (by omega) (by omega)) rfl (by decide) rfl rfl (by decide) rfl ?_
      refine lE_gval (v := (byteV (t.data.toList.getD (t.size - 1) 0))) (x_idxS rfl rfl (by omega)) rfl (by decide) rfl rfl (by decide) rfl ?_
      refine lE_gval (v := (.bool false)) (by rw [← h2]; exact x_eqlu8 rfl rfl) rfl (by decide) rfl rfl (by decide) rfl ?_
      refine lE_val (v := (.bool false)) (x_pickT (v := (.bool false)) rfl rfl) rfl (by decide) rfl ?_
      refine lE_nil ?_
      refine cE_condF rfl (cE_skipT ?_)
      refine cE_list ?_
      refine lE_val (v := (.string t)) (x_move (v := (.string t)) rfl) rfl (by decide) rfl ?_
      refine lE_val (v := (.string t)) (x_assign (v := (.string t)) rfl) rfl (by decide) rfl ?_
      refine lE_nil ?_
      exact cE_retE ⟨by rw [hres]; rfl, rfl⟩

/-- What holds at the loop's head of zzModelLines. -/
def ModInv (s : ByteArray) (w0 : World) (E : Env) (w : World) (m : Nat) : Prop :=
  ∃ (st i : Nat) (v : Value) (xs : List (List UInt8)), E 0 = .string s ∧ E 3 = v ∧ E 4 = .int .i64 (st : Nat) ∧ E 5 = .int .i64 (i : Nat) ∧ st ≤ i ∧ i ≤ s.size ∧ m = s.size - i ∧
    linesOf s.data.toList = xs ++ splitL (s.data.toList.drop i) ((s.data.toList.drop st).take (i - st)) ∧ w.ownsRow w0.heap.size 9 1 v xs.length (xs.map strV) ∧ Keep (fun k => w0.heap.size ≤ k) w0 w

theorem keepRow {w w' : World} {base : Nat} {v : Value} {n : Nat} {ys : List Value} {o : Obj} {e : TypeId} (ho : w.ownsRow base e 1 v n ys) (hk : Keep (fun k => v.ownBlock = some k) (w.alloc o) w') : Keep (fun k => base ≤ k) w w' :=
  ((Keep.refl _ w).alloc o).trans (hk.mono fun _ _ h => (ownsRow_block ho h).1)

theorem drop_getD {d : List UInt8} {i : Nat} (hi : i < d.length) : d.drop i = d.getD i 0 :: d.drop (i + 1) := by
  rw [List.getD_eq_getElem?_getD, List.getElem?_eq_getElem hi, Option.getD_some, ← List.drop_eq_getElem_cons hi]
theorem seg_snoc {d : List UInt8} {st i : Nat} (hst : st ≤ i) (hi : i < d.length) : (d.drop st).take (i + 1 - st) = (d.drop st).take (i - st) ++ [d.getD i 0] := by
  rw [show i + 1 - st = (i - st) + 1 by omega, List.take_succ_eq_append_getElem (by rw [List.length_drop]; omega)]
  congr 2
  rw [List.getElem_drop, List.getD_eq_getElem?_getD, List.getElem?_eq_getElem hi, Option.getD_some]
  congr 1
  omega

set_option maxHeartbeats 1000000 in
theorem model_loop {c : Code} (hc : findBlock 0 (Tryf.f8.body.getD .skip) = some c) {s : ByteArray} (hsz : s.size ≤ 65536) {w0 : World} {Q : Exit → Env → World → Prop} {E : Env} {w : World} {m : Nat} (hI : ModInv s w0 E w m)
    (hend : ∀ E' w', ModInv s w0 E' w' 0 → Q .normal E' w') : cE Tryf.prog 38 c Q E w := by
  have hll : (linesOf s.data.toList).length ≤ 65536 := Nat.le_trans (linesOf_length _) hsz
  have hdl : s.data.toList.length = s.size := rfl
  cases hc
  refine cE_block ?_
  refine cE_loop (ModInv s w0) hI ?_
  rintro E w m ⟨st, i, v, xs, h0, h3, h4, h5, hst, hi, hm, hl, hown, hK⟩
  have hxl : xs.length ≤ 65536 := by
    have := congrArg List.length hl
    rw [List.length_append] at this
    omega
  by_cases hlt : i < s.size
  · have h1 : decide (((i : Nat) : Int) < ((s.size : Nat) : Int)) = true := by simp; omega
    rw [drop_getD (d := s.data.toList) (i := i) (by omega)] at hl
    by_cases hnl : s.data.toList.getD i 0 = 10
    · have h2 : ((((s.data.toList.getD i 0).toNat : Nat) : Int) == 10) = true := by rw [hnl]; rfl
      have hex : (s.extract st i).size ≤ 1000000 := by
        have : (s.extract st i).size ≤ s.size := by rw [ByteArray.size_extract]; omega
        omega
      rw [keep4 h0 h3 h4 h5]
      refine cE_seq ?_
      refine cE_list ?_
      refine lE_val (v := (.int .i64 (i : Nat))) (x_move (v := (.int .i64 (i : Nat))) rfl) rfl (by decide) rfl ?_
      refine lE_val (v := (.string s)) (x_move (v := (.string s)) rfl) rfl (by decide) rfl ?_
      refine lE_val (v := (.int .i64 (s.size : Nat))) (x_lenS rfl) rfl (by decide) rfl ?_
      refine lE_val (v := (.bool true)) (by rw [← h1]; exact x_lss rfl rfl) rfl (by decide) rfl ?_
      refine lE_nil ?_
      refine cE_condT rfl (cE_skipT ?_)
      refine cE_seq ?_
      refine cE_block ?_
      refine cE_list ?_
      refine lE_val (v := (.string s)) (x_move (v := (.string s)) rfl) rfl (by decide) rfl ?_
      refine lE_val (v := (.int .i64 (i : Nat))) (x_move (v := (.int .i64 (i : Nat))) rfl) rfl (by decide) rfl ?_
      refine lE_val (v := (byteV (s.data.toList.getD i 0))) (x_idxS rfl rfl (by omega)) rfl (by decide) rfl ?_
      refine lE_val (v := (.bool true)) (by rw [← h2]; exact x_eqlu8 rfl rfl) rfl (by decide) rfl ?_
      refine lE_nil ?_
      refine cE_condT rfl ?_
      refine cE_list ?_
      refine lE_val (v := v) (x_move (v := v) rfl) rfl (by decide) rfl ?_
      refine lE_val (v := (.string s)) (x_move (v := (.string s)) rfl) rfl (by decide) rfl ?_
      refine lE_val (v := (.int .i64 (st : Nat))) (x_move (v := (.int .i64 (st : Nat))) rfl) rfl (by decide) rfl ?_
      refine lE_val (v := (.int .i64 (i : Nat))) (x_move (v := (.int .i64 (i : Nat))) rfl) rfl (by decide) rfl ?_
      refine lE_val (v := (.string (s.extract st i))) (x_sliceSB rfl rfl rfl (by omega) (by omega)) rfl (by decide) rfl ?_
      refine lE_call (x_call1 Tryf.func18 (by kernel_rfl) (by kernel_rfl) rfl rfl) rfl (by decide) rfl ?_
      refine Calls.mono (zzDropCR_calls hex) ?_
      intro rr ww hrr; obtain ⟨hr1, hr2⟩ := hrr; rw [hr1, hr2]; refine ⟨_, rfl, ?_⟩
      refine lE_val (v := (.slice (some ⟨w.heap.size, 0, none⟩) 1 1)) (x_bs23 rfl) rfl (by decide) rfl ?_
      refine lE_append23 rfl rfl (hown.alloc _) (Blk.alloc_new w _ _) rfl (by omega) ?_ (by decide) ?_
      · simp; exact Nat.le_succ_of_le hK.size
      intro u wa ho k1
      refine lE_val (v := u) (x_assign (v := u) rfl) rfl (by decide) rfl ?_
      refine lE_nil ?_
      refine cE_list_last ?_
      refine lE_val (v := (.int .i64 (i : Nat))) (x_move (v := (.int .i64 (i : Nat))) rfl) rfl (by decide) rfl ?_
      refine lE_val (v := (.int .i64 (i + 1 : Nat))) (x_add (r := ((i + 1 : Nat) : Int)) rfl rfl (by omega) (by omega) (by omega)) rfl (by decide) rfl ?_
      refine lE_val (v := (.int .i64 (i + 1 : Nat))) (x_assign (v := (.int .i64 (i + 1 : Nat))) rfl) rfl (by decide) rfl ?_
      refine lE_nil ?_
      change cE Tryf.prog 38 _ _ _ _
      refine cE_list_last ?_
      refine lE_val (v := (.int .i64 (i : Nat))) (x_move (v := (.int .i64 (i : Nat))) rfl) rfl (by decide) rfl ?_
      refine lE_val (v := (.int .i64 (i + 1 : Nat))) (x_add (r := ((i + 1 : Nat) : Int)) rfl rfl (by omega) (by omega) (by omega)) rfl (by decide) rfl ?_
      refine lE_val (v := (.int .i64 (i + 1 : Nat))) (x_assign (v := (.int .i64 (i + 1 : Nat))) rfl) rfl (by decide) rfl ?_
      refine lE_nil ?_
      refine ⟨s.size - (i + 1), by omega, i + 1, i + 1, u, xs ++ [dropCRl (s.extract st i).data.toList], rfl, rfl, rfl, rfl, Nat.le_refl _, by omega, rfl, ?_, ?_, ?_⟩
      · rw [hl, hnl]
        simp [splitL, extract_strB, strB]
      · rw [List.length_append, List.length_singleton, List.map_append]; exact ho
      · exact hK.trans (keepRow hown k1)
    · have h2 : ((((s.data.toList.getD i 0).toNat : Nat) : Int) == 10) = false := by
        rw [beq_eq_false_iff_ne]
        intro e
        apply hnl
        apply UInt8.toNat_inj.1
        have : (10 : UInt8).toNat = 10 := rfl
        omega
      rw [keep4 h0 h3 h4 h5]
      refine cE_seq ?_
      refine cE_list ?_
      refine lE_val (v := (.int .i64 (i : Nat))) (x_move (v := (.int .i64 (i : Nat))) rfl) rfl (by decide) rfl ?_
      refine lE_val (v := (.string s)) (x_move (v := (.string s)) rfl) rfl (by decide) rfl ?_
      refine lE_val (v := (.int .i64 (s.size : Nat))) (x_lenS rfl) rfl (by decide) rfl ?_
      refine lE_val (v := (.bool true)) (by rw [← h1]; exact x_lss rfl rfl) rfl (by decide) rfl ?_
      refine lE_nil ?_
      refine cE_condT rfl (cE_skipT ?_)
      refine cE_seq ?_
      refine cE_block ?_
      refine cE_list ?_
      refine lE_val (v := (.string s)) (x_move (v := (.string s)) rfl) rfl (by decide) rfl ?_
      refine lE_val (v := (.int .i64 (i : Nat))) (x_move (v := (.int .i64 (i : Nat))) rfl) rfl (by decide) rfl ?_
      refine lE_val (v := (byteV (s.data.toList.getD i 0))) (x_idxS rfl rfl (by omega)) rfl (by decide) rfl ?_
      refine lE_val (v := (.bool false)) (by rw [← h2]; exact x_eqlu8 rfl rfl) rfl (by decide) rfl ?_
      refine lE_nil ?_
      refine cE_condF rfl (cE_skipN ?_)
      change cE Tryf.prog 38 _ _ _ _
      refine cE_list_last ?_
      refine lE_val (v := (.int .i64 (i : Nat))) (x_move (v := (.int .i64 (i : Nat))) rfl) rfl (by decide) rfl ?_
      refine lE_val (v := (.int .i64 (i + 1 : Nat))) (x_add (r := ((i + 1 : Nat) : Int)) rfl rfl (by omega) (by omega) (by omega)) rfl (by decide) rfl ?_
      refine lE_val (v := (.int .i64 (i + 1 : Nat))) (x_assign (v := (.int .i64 (i + 1 : Nat))) rfl) rfl (by decide) rfl ?_
      refine lE_nil ?_
      refine ⟨s.size - (i + 1), by omega, st, i + 1, v, xs, rfl, rfl, rfl, rfl, by omega, by omega, rfl, ?_, hown, hK⟩
      rw [hl, seg_snoc hst (by omega)]
      simp only [splitL, if_neg hnl]
  · have h1 : decide (((i : Nat) : Int) < ((s.size : Nat) : Int)) = false := by simp; omega
    rw [keep4 h0 h3 h4 h5]
    refine cE_seq ?_
    refine cE_list ?_
    refine lE_val (v := (.int .i64 (i : Nat))) (x_move (v := (.int .i64 (i : Nat))) rfl) rfl (by decide) rfl ?_
    refine lE_val (v := (.string s)) (x_move (v := (.string s)) rfl) rfl (by decide) rfl ?_
    refine lE_val (v := (.int .i64 (s.size : Nat))) (x_lenS rfl) rfl (by decide) rfl ?_
    refine lE_val (v := (.bool false)) (by rw [← h1]; exact x_lss rfl rfl) rfl (by decide) rfl ?_
    refine lE_nil ?_
    refine cE_condF rfl ?_
    refine cE_exit ?_
    exact hend _ _ ⟨st, i, v, xs, rfl, rfl, rfl, rfl, hst, hi, by omega, hl, hown, hK⟩

set_option maxHeartbeats 1000000 in
theorem model_calls {s : ByteArray} (hsz : s.size ≤ 65536) (w : World) : Calls Tryf.prog 8 #[.string s] w fun r w' =>
    ∃ v, r = .returned v ∧ w'.ownsRow w.heap.size 9 1 v (linesOf s.data.toList).length ((linesOf s.data.toList).map strV) ∧ Keep (fun _ => False) w w' := by
  have hll : (linesOf s.data.toList).length ≤ 65536 := Nat.le_trans (linesOf_length _) hsz
  have hdl : s.data.toList.length = s.size := rfl
  refine calls_E Tryf.func8 rfl Tryf.ntmps8 (by simp) (env1 _) _ (res1 Tryf.results8) ?_
  refine cE_list ?_
  refine lE_val (v := (.slice none 0 0)) (x_assign (v := (.slice none 0 0)) rfl) rfl (by decide) rfl ?_
  refine lE_nil ?_
  refine cE_list ?_
  refine lE_val (v := (.slice none 0 0)) (x_assign (v := (.slice none 0 0)) rfl) rfl (by decide) rfl ?_
  refine lE_nil ?_
  refine cE_list ?_
  refine lE_val (v := (.int .i64 0)) (x_assign (v := (.int .i64 0)) rfl) rfl (by decide) rfl ?_
  refine lE_nil ?_
  refine cE_seq ?_
  refine cE_list ?_
  refine lE_val (v := (.int .i64 0)) (x_assign (v := (.int .i64 0)) rfl) rfl (by decide) rfl ?_
  refine lE_nil ?_
  generalize hw0 : w = w0 at *
  refine model_loop (w0 := w0) rfl hsz ⟨0, 0, .slice none 0 0, [], rfl, rfl, rfl, rfl, Nat.le_refl _, Nat.zero_le _, rfl, by simp [linesOf], World.ownsRow_nil _ _ _ _, Keep.refl _ _⟩ ?_
  rintro E' w' ⟨st, i, v, xs, h0, h3, h4, h5, hst, hi, hm, hl, hown, hK⟩
  have hi' : i = s.size := by omega
  subst hi'
  rw [List.drop_eq_nil_of_le (by omega)] at hl
  change cE Tryf.prog 38 _ _ _ _
  have hfin : ∀ {wz : World}, Keep (fun k => w0.heap.size ≤ k) w0 wz → Keep (fun _ => False) w0 wz := fun h => h.mono fun k hk h' => absurd h' (by omega)
  have hseg : (s.data.toList.drop st).take (s.size - st) = (s.extract st s.size).data.toList := by rw [extract_strB]; rfl
  rw [hseg] at hl
  have hsl : (s.extract st s.size).data.toList.length = s.size - st := by rw [← hseg, List.length_take, List.length_drop]; omega
  generalize hwl : w' = w at *
  by_cases hlt : st < s.size
  · have h1 : decide (((st : Nat) : Int) < ((s.size : Nat) : Int)) = true := by simp; omega
    have hex : (s.extract st s.size).size ≤ 1000000 := by
      have : (s.extract st s.size).size = s.size - st := hsl
      omega
    have hne : (s.extract st s.size).data.toList ≠ [] := fun e => by rw [e] at hsl; simp at hsl; omega
    have hl2 : linesOf s.data.toList = xs ++ [dropCRl (s.extract st s.size).data.toList] := by rw [hl]; simp only [splitL, if_neg hne]
    have hxl : xs.length ≤ 65536 := by
      have := congrArg List.length hl2
      rw [List.length_append] at this
      omega
    rw [keep4 h0 h3 h4 h5]
    refine cE_seq ?_
    refine cE_list ?_
    refine lE_val (v := (.int .i64 (st : Nat))) (x_move (v := (.int .i64 (st : Nat))) rfl) rfl (by decide) rfl ?_
    refine lE_val (v := (.string s)) (x_move (v := (.string s)) rfl) rfl (by decide) rfl ?_
    refine lE_val (v := (.int .i64 (s.size : Nat))) (x_lenS rfl) rfl (by decide) rfl ?_
    refine lE_val (v := (.bool true)) (by rw [← h1]; exact x_lss rfl rfl) rfl (by decide) rfl ?_
    refine lE_nil ?_
    refine cE_condT rfl ?_
    refine cE_list_lastT ?_
    refine lE_val (v := v) (x_move (v := v) rfl) rfl (by decide) rfl ?_
    refine lE_val (v := (.string s)) (x_move (v := (.string s)) rfl) rfl (by decide) rfl ?_
    refine lE_val (v := (.int .i64 (st : Nat))) (x_move (v := (.int .i64 (st : Nat))) rfl) rfl (by decide) rfl ?_
    refine lE_val (v := (.string (s.extract st s.size))) (x_sliceS rfl rfl (by omega)) rfl (by decide) rfl ?_
    refine lE_call (x_call1 Tryf.func18 (by kernel_rfl) (by kernel_rfl) rfl rfl) rfl (by decide) rfl ?_
    refine Calls.mono (zzDropCR_calls hex) ?_
    intro rr ww hrr; obtain ⟨hr1, hr2⟩ := hrr; rw [hr1, hr2]; refine ⟨_, rfl, ?_⟩
    refine lE_val (v := (.slice (some ⟨w.heap.size, 0, none⟩) 1 1)) (x_bs23 rfl) rfl (by decide) rfl ?_
    refine lE_append23 rfl rfl (hown.alloc _) (Blk.alloc_new w _ _) rfl (by omega) ?_ (by decide) ?_
    · simp; exact Nat.le_succ_of_le hK.size
    intro u wa ho k1
    refine lE_val (v := u) (x_assign (v := u) rfl) rfl (by decide) rfl ?_
    refine lE_nil ?_
    refine cE_list ?_
    refine lE_val (v := u) (x_move (v := u) rfl) rfl (by decide) rfl ?_
    refine lE_val (v := u) (x_assign (v := u) rfl) rfl (by decide) rfl ?_
    refine lE_nil ?_
    refine cE_retE ⟨_, rfl, ?_, hfin (hK.trans (keepRow hown k1))⟩
    rw [hl2, List.length_append, List.length_singleton, List.map_append]
    exact ho
  · have h1 : decide (((st : Nat) : Int) < ((s.size : Nat) : Int)) = false := by simp; omega
    have hne : (s.extract st s.size).data.toList = [] := List.length_eq_zero_iff.1 (by omega)
    have hl2 : linesOf s.data.toList = xs := by rw [hl, hne]; simp [splitL]
    rw [keep4 h0 h3 h4 h5]
    refine cE_seq ?_
    refine cE_list ?_
    refine lE_val (v := (.int .i64 (st : Nat))) (x_move (v := (.int .i64 (st : Nat))) rfl) rfl (by decide) rfl ?_
    refine lE_val (v := (.string s)) (x_move (v := (.string s)) rfl) rfl (by decide) rfl ?_
    refine lE_val (v := (.int .i64 (s.size : Nat))) (x_lenS rfl) rfl (by decide) rfl ?_
    refine lE_val (v := (.bool false)) (by rw [← h1]; exact x_lss rfl rfl) rfl (by decide) rfl ?_
    refine lE_nil ?_
    refine cE_condF rfl (cE_skipT ?_)
    refine cE_list ?_
    refine lE_val (v := v) (x_move (v := v) rfl) rfl (by decide) rfl ?_
    refine lE_val (v := v) (x_assign (v := v) rfl) rfl (by decide) rfl ?_
    refine lE_nil ?_
    refine cE_retE ⟨_, rfl, ?_, hfin hK⟩
    rw [hl2]
    exact hown
end Go.Proofs.Qxb6613145aFmt
