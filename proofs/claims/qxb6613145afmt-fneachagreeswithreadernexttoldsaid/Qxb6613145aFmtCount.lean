/-
  zzCountLines. (The regions' lines are written by gen/count.py.)
-/
import Derived.Test.Qxb6613145aFmtModel
namespace Go.Proofs.Qxb6613145aFmt
open Go.RowKit
set_option maxRecDepth 100000

theorem x_nequ8 {ρ : Operand → Value} {dst : Option Tmp} {ty : TypeId} {pos : String} {after : Array Edge} {g : Option (Nat × Bool)} {w : World} {x y : Operand} {m n : Int} (h : ρ x = .int .u8 m) (h' : ρ y = .int .u8 n) :
    (execOp ρ ⟨dst, .binOp .neq 5 x y 5, ty, pos, after, g⟩).run Tryf.prog w = .ok (.value (.bool (m != n))) w := by
  simp [go_sem, h, h']

theorem splitL_count : ∀ (l cur : List UInt8), (splitL l cur).length = l.count 10 + (if l = [] then (if cur = [] then 0 else 1) else if l.getLast? = some 10 then 0 else 1)
  | [], cur => by
    unfold splitL
    by_cases h : cur = [] <;> simp [h]
  | b :: l, cur => by
    by_cases hb : b = 10
    · subst hb
      have ih := splitL_count l []
      cases l with
      | nil => simp [splitL]
      | cons d l =>
        simp only [splitL, if_true] at ih ⊢
        simp only [List.length_cons, ih, List.count_cons_self, reduceCtorEq, if_false, List.getLast?_cons_cons]
        omega
    · have ih := splitL_count l (cur ++ [b])
      cases l with
      | nil => simp [splitL, hb]
      | cons d l =>
        have hb' : (b == 10) = false := by simp [hb]
        rw [splitL, if_neg hb, ih]
        simp only [List.count_cons, hb', reduceCtorEq, if_false, List.getLast?_cons_cons, Bool.false_eq_true, Nat.add_zero]
theorem linesOf_count (l : List UInt8) : (linesOf l).length = l.count 10 + (if l = [] then 0 else if l.getLast? = some 10 then 0 else 1) := by
  have := splitL_count l []
  unfold linesOf
  simpa using this

theorem count_snoc {d : List UInt8} {i : Nat} (hi : i < d.length) : (d.take (i + 1)).count 10 = (d.take i).count 10 + (if d.getD i 0 = 10 then 1 else 0) := by
  rw [List.take_succ_eq_append_getElem hi, List.count_append, List.getD_eq_getElem?_getD, List.getElem?_eq_getElem hi, Option.getD_some]
  congr 1
  by_cases h : d[i] = 10 <;> simp [h]

def CntInv (s : ByteArray) (w0 : World) (E : Env) (w : World) (m : Nat) : Prop :=
  ∃ i : Nat, E 0 = .string s ∧ E 3 = .int .i64 ((s.data.toList.take i).count 10 : Nat) ∧ E 4 = .int .i64 (i : Nat) ∧ i ≤ s.size ∧ m = s.size - i ∧ w = w0

set_option maxHeartbeats 1000000 in
theorem count_loop {c : Code} (hc : findBlock 0 (Tryf.f11.body.getD .skip) = some c) {s : ByteArray} (hsz : s.size ≤ 65536) {w0 : World} {Q : Exit → Env → World → Prop} {E : Env} {w : World} {m : Nat} (hI : CntInv s w0 E w m)
    (hend : ∀ E' w', CntInv s w0 E' w' 0 → Q .normal E' w') : cE Tryf.prog 31 c Q E w := by
  have hdl : s.data.toList.length = s.size := rfl
  cases hc
  refine cE_block ?_
  refine cE_loop (CntInv s w0) hI ?_
  rintro E w m ⟨i, h0, h3, h4, hi, hm, hw⟩
  have hcl : (s.data.toList.take i).count 10 ≤ i := Nat.le_trans List.count_le_length (List.length_take_le _ _)
  by_cases hlt : i < s.size
  · have h1 : decide (((i : Nat) : Int) < ((s.size : Nat) : Int)) = true := by simp; omega
    have hsn := count_snoc (d := s.data.toList) (i := i) (by omega)
    generalize hcc : (s.data.toList.take i).count 10 = c at *
    by_cases hnl : s.data.toList.getD i 0 = 10
    · have h2 : ((((s.data.toList.getD i 0).toNat : Nat) : Int) == 10) = true := by rw [hnl]; rfl
      rw [if_pos hnl] at hsn
      rw [keep3 h0 h3 h4]
      refine cE_seq ?_
      refine cE_list ?_
      refine lE_val (v := (.int .i64 (i : Nat))) (x_move (v := (.int .i64 (i : Nat))) rfl) rfl (by decide) rfl ?_
      refine lE_val (v := (.string s)) (x_move (v := (.string s)) rfl) rfl (by decide) rfl ?_
      refine lE_val (v := (.int .i64 (s.size : Nat))) (x_lenS rfl) rfl (by decide) rfl ?_
      refine lE_val (v := (.bool true)) (by rw [← h1]; exact x_lss rfl rfl) rfl (by decide) rfl ?_
      refine lE_nil ?_
      refine cE_condT rfl (cE_skipT ?_)
      refine cE_seq ?_
      refine cE_block ?_
      refine cE_list ?_
      refine lE_val (v := (.string s)) (x_move (v := (.string s)) rfl) rfl (by decide) rfl ?_
      refine lE_val (v := (.int .i64 (i : Nat))) (x_move (v := (.int .i64 (i : Nat))) rfl) rfl (by decide) rfl ?_
      refine lE_val (v := (byteV (s.data.toList.getD i 0))) (x_idxS rfl rfl (by omega)) rfl (by decide) rfl ?_
      refine lE_val (v := (.bool true)) (by rw [← h2]; exact x_eqlu8 rfl rfl) rfl (by decide) rfl ?_
      refine lE_nil ?_
      refine cE_condT rfl ?_
      refine cE_list_last ?_
      refine lE_val (v := (.int .i64 (c : Nat))) (x_move (v := (.int .i64 (c : Nat))) rfl) rfl (by decide) rfl ?_
      refine lE_val (v := (.int .i64 (c + 1 : Nat))) (x_add (r := ((c + 1 : Nat) : Int)) rfl rfl (by omega) (by omega) (by omega)) rfl (by decide) rfl ?_
      refine lE_val (v := (.int .i64 (c + 1 : Nat))) (x_assign (v := (.int .i64 (c + 1 : Nat))) rfl) rfl (by decide) rfl ?_
      refine lE_nil ?_
      change cE Tryf.prog 31 _ _ _ _
      refine cE_list_last ?_
      refine lE_val (v := (.int .i64 (i : Nat))) (x_move (v := (.int .i64 (i : Nat))) rfl) rfl (by decide) rfl ?_
      refine lE_val (v := (.int .i64 (i + 1 : Nat))) (x_add (r := ((i + 1 : Nat) : Int)) rfl rfl (by omega) (by omega) (by omega)) rfl (by decide) rfl ?_
      refine lE_val (v := (.int .i64 (i + 1 : Nat))) (x_assign (v := (.int .i64 (i + 1 : Nat))) rfl) rfl (by decide) rfl ?_
      refine lE_nil ?_
      exact ⟨s.size - (i + 1), by omega, i + 1, rfl, by rw [hsn]; rfl, rfl, by omega, rfl, hw⟩
    · have h2 : ((((s.data.toList.getD i 0).toNat : Nat) : Int) == 10) = false := by
        rw [beq_eq_false_iff_ne]
        intro e
        apply hnl
        apply UInt8.toNat_inj.1
        have : (10 : UInt8).toNat = 10 := rfl
        omega
      rw [if_neg hnl] at hsn
      rw [keep3 h0 h3 h4]
      refine cE_seq ?_
      refine cE_list ?_
      refine lE_val (v := (.int .i64 (i : Nat))) (x_move (v := (.int .i64 (i : Nat))) rfl) rfl (by decide) rfl ?_
      refine lE_val (v := (.string s)) (x_move (v := (.string s)) rfl) rfl (by decide) rfl ?_
      refine lE_val (v := (.int .i64 (s.size : Nat))) (x_lenS rfl) rfl (by decide) rfl ?_
      refine lE_val (v := (.bool true)) (by rw [← h1]; exact x_lss rfl rfl) rfl (by decide) rfl ?_
      refine lE_nil ?_
      refine cE_condT rfl (cE_skipT ?_)
      refine cE_seq ?_
      refine cE_block ?_
      refine cE_list ?_
      refine lE_val (v := (.string s)) (x_move (v := (.string s)) rfl) rfl (by decide) rfl ?_
      refine lE_val (v := (.int .i64 (i : Nat))) (x_move (v := (.int .i64 (i : Nat))) rfl) rfl (by decide) rfl ?_
      refine lE_val (v := (byteV (s.data.toList.getD i 0))) (x_idxS rfl rfl (by omega)) rfl (by decide) rfl ?_
      refine lE_val (v := (.bool false)) (by rw [← h2]; exact x_eqlu8 rfl rfl) rfl (by decide) rfl ?_
      refine lE_nil ?_
      refine cE_condF rfl (cE_skipN ?_)
      change cE Tryf.prog 31 _ _ _ _
      refine cE_list_last ?_
      refine lE_val (v := (.int .i64 (i : Nat))) (x_move (v := (.int .i64 (i : Nat))) rfl) rfl (by decide) rfl ?_
      refine lE_val (v := (.int .i64 (i + 1 : Nat))) (x_add (r := ((i + 1 : Nat) : Int)) rfl rfl (by omega) (by omega) (by omega)) rfl (by decide) rfl ?_
      refine lE_val (v := (.int .i64 (i + 1 : Nat))) (x_assign (v := (.int .i64 (i + 1 : Nat))) rfl) rfl (by decide) rfl ?_
      refine lE_nil ?_
      exact ⟨s.size - (i + 1), by omega, i + 1, rfl, by rw [hsn]; rfl, rfl, by omega, rfl, hw⟩
  · have h1 : decide (((i : Nat) : Int) < ((s.size : Nat) : Int)) = false := by simp; omega
    generalize hcc : (s.data.toList.take i).count 10 = c at *
    rw [keep3 h0 h3 h4]
    refine cE_seq ?_
    refine cE_list ?_
    refine lE_val (v := (.int .i64 (i : Nat))) (x_move (v := (.int .i64 (i : Nat))) rfl) rfl (by decide) rfl ?_
    refine lE_val (v := (.string s)) (x_move (v := (.string s)) rfl) rfl (by decide) rfl ?_
    refine lE_val (v := (.int .i64 (s.size : Nat))) (x_lenS rfl) rfl (by decide) rfl ?_
    refine lE_val (v := (.bool false)) (by rw [← h1]; exact x_lss rfl rfl) rfl (by decide) rfl ?_
    refine lE_nil ?_
    refine cE_condF rfl ?_
    refine cE_exit ?_
    exact hend _ _ ⟨i, rfl, by rw [hcc]; rfl, rfl, hi, by omega, hw⟩

set_option maxHeartbeats 1000000 in
theorem count_calls {s : ByteArray} (hsz : s.size ≤ 65536) (w : World) : Calls Tryf.prog 11 #[.string s] w fun r w' => r = .returned (.int .i64 ((linesOf s.data.toList).length : Nat)) ∧ w' = w := by
  have hdl : s.data.toList.length = s.size := rfl
  have hlc := linesOf_count s.data.toList
  refine calls_E Tryf.func11 rfl Tryf.ntmps11 (by simp) (env1 _) _ (res1 Tryf.results11) ?_
  refine cE_list ?_
  refine lE_val (v := (.int .i64 0)) (x_assign (v := (.int .i64 0)) rfl) rfl (by decide) rfl ?_
  refine lE_nil ?_
  refine cE_list ?_
  refine lE_val (v := (.int .i64 0)) (x_assign (v := (.int .i64 0)) rfl) rfl (by decide) rfl ?_
  refine lE_nil ?_
  refine cE_seq ?_
  refine cE_list ?_
  refine lE_val (v := (.int .i64 0)) (x_assign (v := (.int .i64 0)) rfl) rfl (by decide) rfl ?_
  refine lE_nil ?_
  refine count_loop (w0 := w) rfl hsz ⟨0, rfl, rfl, rfl, Nat.zero_le _, rfl, rfl⟩ ?_
  rintro E' w' ⟨i, h0, h3, h4, hi, hm, hw⟩
  subst hw
  change cE Tryf.prog 31 _ _ _ _
  have hi' : i = s.size := by omega
  subst hi'
  rw [List.take_of_length_le (by omega)] at h3
  have hcl : s.data.toList.count 10 ≤ s.size := List.count_le_length
  generalize hcc : s.data.toList.count 10 = c at *
  generalize hii : s.size = i at h4
  rw [keep3 h0 h3 h4]
  by_cases hz : s.size = 0
  · have h1 : decide ((0 : Int) < ((s.size : Nat) : Int)) = false := by rw [decide_eq_false_iff_not]; omega
    have hnil : s.data.toList = [] := List.length_eq_zero_iff.1 (by omega)
    rw [if_pos hnil, Nat.add_zero] at hlc
    refine cE_seq ?_
    refine cE_list ?_
    refine lE_val (v := (.string s)) (x_move (v := (.string s)) rfl) rfl (by decide) rfl ?_
    refine lE_val (v := (.int .i64 (s.size : Nat))) (x_lenS rfl) rfl (by decide) rfl ?_
    refine lE_val (v := (.bool false)) (by rw [← h1]; exact x_gtr rfl rfl) rfl (by decide) rfl ?_
    refine lE_val (v := (.bool false)) (x_move (v := (.bool false)) rfl) rfl (by decide) rfl ?_
    refine lE_gskip rfl (by decide) rfl rfl (by decide) (.inl rfl) ?_
    refine lE_gskip rfl (by decide) rfl rfl (by decide) (.inl rfl) ?_
    refine lE_gskip rfl (by decide) rfl rfl (by decide) (.inl rfl) ?_
    refine lE_gskip rfl (by decide) rfl rfl (by decide) (.inl rfl) ?_
    refine lE_gskip rfl (by decide) rfl rfl (by decide) (.inl rfl) ?_
    refine lE_gskip rfl (by decide) rfl rfl (by decide) (.inl rfl) ?_
    refine lE_val (v := (.bool false)) (x_pickF (v := (.bool false)) rfl rfl) rfl (by decide) rfl ?_
    refine lE_nil ?_
    refine cE_condF rfl (cE_skipT ?_)
    refine cE_list ?_
    refine lE_val (v := (.int .i64 (c : Nat))) (x_move (v := (.int .i64 (c : Nat))) rfl) rfl (by decide) rfl ?_
    refine lE_val (v := (.int .i64 (c : Nat))) (x_assign (v := (.int .i64 (c : Nat))) rfl) rfl (by decide) rfl ?_
    refine lE_nil ?_
    exact cE_retE ⟨by rw [hlc]; rfl, rfl⟩
  · have h1 : decide ((0 : Int) < ((s.size : Nat) : Int)) = true := by rw [decide_eq_true_eq]; omega
    have hne : s.data.toList ≠ [] := fun e => by rw [e] at hdl; simp at hdl; omega
    have hlast : s.data.toList.getLast? = some (s.data.toList.getD (s.size - 1) 0) := by
      rw [List.getLast?_eq_getElem?, hdl, List.getD_eq_getElem?_getD, List.getElem?_eq_getElem (by omega)]
      rfl
    rw [if_neg hne, hlast] at hlc
    by_cases hx : s.data.toList.getD (s.size - 1) 0 = 10
    · have h2 : ((((s.data.toList.getD (s.size - 1) 0).toNat : Nat) : Int) != 10) = false := by rw [hx]; rfl
      rw [if_pos (by rw [hx]), Nat.add_zero] at hlc
      refine cE_seq ?_
      refine cE_list ?_
      refine lE_val (v := (.string s)) (x_move (v := (.string s)) rfl) rfl (by decide) rfl ?_
      refine lE_val (v := (.int .i64 (s.size : Nat))) (x_lenS rfl) rfl (by decide) rfl ?_
      refine lE_val (v := (.bool true)) (by rw [← h1]; exact x_gtr rfl rfl) rfl (by decide) rfl ?_
      refine lE_val (v := (.bool true)) (x_move (v := (.bool true)) rfl) rfl (by decide) rfl ?_
      refine lE_gval (v := (.string s)) (x_move (v := (.string s)) rfl) rfl (by decide) rfl rfl (by decide) rfl ?_
      refine lE_gval (v := (.string s)) (x_move (v := (.string s)) rfl) rfl (by decide) rfl rfl (by decide) rfl ?_
      refine lE_gval (v := (.int .i64 (s.size : Nat))) (x_lenS rfl) rfl (by decide) rfl rfl (by decide) rfl ?_
      refine lE_gval (v := (.int .i64 (s.size - 1 : Nat))) (x_sub (r := ((s.size - 1 : Nat) : Int)) rfl rfl (by omega) (by omega) (by omega)) rfl (by decide) rfl rfl (by decide) rfl ?_
      refine lE_gval (v := (byteV (s.data.toList.getD (s.size - 1) 0))) (x_idxS rfl rfl (by omega)) rfl (by decide) rfl rfl (by decide) rfl ?_
      refine lE_gval (v := (.bool false)) (by rw [← h2]; exact x_nequ8 rfl rfl) rfl (by decide) rfl rfl (by decide) rfl ?_
      refine lE_val (v := (.bool false)) (x_pickT (v := (.bool false)) rfl rfl) rfl (by decide) rfl ?_
      refine lE_nil ?_
      refine cE_condF rfl (cE_skipT ?_)
      refine cE_list ?_
      refine lE_val (v := (.int .i64 (c : Nat))) (x_move (v := (.int .i64 (c : Nat))) rfl) rfl (by decide) rfl ?_
      refine lE_val (v := (.int .i64 (c : Nat))) (x_assign (v := (.int .i64 (c : Nat))) rfl) rfl (by decide) rfl ?_
      refine lE_nil ?_
      exact cE_retE ⟨by rw [hlc]; rfl, rfl⟩
    · have h2 : ((((s.data.toList.getD (s.size - 1) 0).toNat : Nat) : Int) != 10) = true := by
        rw [bne_iff_ne]
        intro e
        apply hx
        apply UInt8.toNat_inj.1
        have : (10 : UInt8).toNat = 10 := rfl
        omega
      rw [if_neg (by intro e; exact hx (Option.some.inj e))] at hlc
      refine cE_seq ?_
      refine cE_list ?_
      refine lE_val (v := (.string s)) (x_move (v := (.string s)) rfl) rfl (by decide) rfl ?_
      refine lE_val (v := (.int .i64 (s.size : Nat))) (x_lenS rfl) rfl (by decide) rfl ?_
      refine lE_val (v := (.bool true)) (by rw [← h1]; exact x_gtr rfl rfl) rfl (by decide) rfl ?_
      refine lE_val (v := (.bool true)) (x_move (v := (.bool true)) rfl) rfl (by decide) rfl ?_
      refine lE_gval (v := (.string s)) (x_move (v := (.string s)) rfl) rfl (by decide) rfl rfl (by decide) rfl ?_
      refine lE_gval (v := (.string s)) (x_move (v := (.string s)) rfl) rfl (by decide) rfl rfl (by decide) rfl ?_
      refine lE_gval (v := (.int .i64 (s.size : Nat))) (x_lenS rfl) rfl (by decide) rfl rfl (by decide) rfl ?_
      refine lE_gval (v := (.int .i64 (s.size - 1 : Nat))) (x_sub (r := ((s.size - 1 : Nat) : Int)) rfl rfl (by omega) (by omega) (by omega)) rfl (by decide) rfl rfl (by decide) rfl ?_
      refine lE_gval (v := (byteV (s.data.toList.getD (s.size - 1) 0))) (x_idxS rfl rfl (by omega)) rfl (by decide) rfl rfl (by decide) rfl ?_
      refine lE_gval (v := (.bool true)) (by rw [← h2]; exact x_nequ8 rfl rfl) rfl (by decide) rfl rfl (by decide) rfl ?_
      refine lE_val (v := (.bool true)) (x_pickT (v := (.bool true)) rfl rfl) rfl (by decide) rfl ?_
      refine lE_nil ?_
      refine cE_condT rfl ?_
      refine cE_list_lastT ?_
      refine lE_val (v := (.int .i64 (c : Nat))) (x_move (v := (.int .i64 (c : Nat))) rfl) rfl (by decide) rfl ?_
      refine lE_val (v := (.int .i64 (c + 1 : Nat))) (x_add (r := ((c + 1 : Nat) : Int)) rfl rfl (by omega) (by omega) (by omega)) rfl (by decide) rfl ?_
      refine lE_val (v := (.int .i64 (c + 1 : Nat))) (x_assign (v := (.int .i64 (c + 1 : Nat))) rfl) rfl (by decide) rfl ?_
      refine lE_nil ?_
      refine cE_list ?_
      refine lE_val (v := (.int .i64 (c + 1 : Nat))) (x_move (v := (.int .i64 (c + 1 : Nat))) rfl) rfl (by decide) rfl ?_
      refine lE_val (v := (.int .i64 (c + 1 : Nat))) (x_assign (v := (.int .i64 (c + 1 : Nat))) rfl) rfl (by decide) rfl ?_
      refine lE_nil ?_
      exact cE_retE ⟨by rw [hlc]; rfl, rfl⟩
end Go.Proofs.Qxb6613145aFmt
