/-
  THE SMALL FUNCTIONS ON THE ROAD. (The regions' lines are written by gen/small.py.)
-/
import Derived.Test.Qxb6613145aFmtOps
import Derived.Test.Qxb6613145aFmtPlain
namespace Go.Proofs.Qxb6613145aFmt
open Go.RowKit
set_option maxRecDepth 100000

/-- The scanner's cells. -/
def scC (rd tok buf : Value) (st en : Nat) (err : Value) (cl : Bool) : Array Value :=
  #[rd, .func (.func 39) #[] #[], .int .i64 1048576, tok, buf, .int .i64 (st : Nat), .int .i64 (en : Nat), err, .int .i64 0, .bool cl, .bool false]

theorem setErr_calls {w : World} {sc : Nat} {rd tok buf : Value} {st en : Nat} {cl : Bool} (hB : Blk w.drew sc (scC rd tok buf st en .nilIface cl) 67) (e : Value) (he : e.oneCell' = true) :
    Calls Tryf.prog 34 #[(.pointer (some ⟨sc, 0, none⟩)), e] w fun r w' => r = .returned (.tuple #[]) ∧ w' = w.drew.setCell ⟨sc, 7, none⟩ e := by
  refine calls_E Tryf.func34 rfl Tryf.ntmps34 (by simp) (env2 _ _) _ (res0 Tryf.results34) ?_
  refine cE_still (by kernel_rfl) (by kernel_rfl) ?_
  refine sE_val (v := (.pointer (some ⟨sc, 0, none⟩))) (x_move (v := (.pointer (some ⟨sc, 0, none⟩))) rfl) rfl (by decide) rfl ?_
  refine sE_val (v := (.pointer (some ⟨sc, 0, none⟩))) (x_nil rfl) rfl (by decide) rfl ?_
  refine sE_val (v := (.pointer (some ⟨sc, 7, none⟩))) (x_fld (i := 7) (by decide) rfl) rfl (by decide) rfl ?_
  refine sE_val (v := .nilIface) (x_loadB (Tryf.isAgg32 _) rfl hB rfl) rfl (by decide) rfl ?_
  refine sE_val (v := (.bool true)) (x_eqnil rfl rfl) rfl (by decide) rfl ?_
  refine sE_val (v := (.bool true)) (x_move (v := (.bool true)) rfl) rfl (by decide) rfl ?_
  refine sE_gskip rfl (by decide) rfl rfl (by decide) (.inl rfl) ?_
  refine sE_gskip rfl (by decide) rfl rfl (by decide) (.inl rfl) ?_
  refine sE_gskip rfl (by decide) rfl rfl (by decide) (.inl rfl) ?_
  refine sE_gskip rfl (by decide) rfl rfl (by decide) (.inl rfl) ?_
  refine sE_gskip rfl (by decide) rfl rfl (by decide) (.inl rfl) ?_
  refine sE_gskip rfl (by decide) rfl rfl (by decide) (.inl rfl) ?_
  refine sE_val (v := (.bool true)) (x_pickT (v := (.bool true)) rfl rfl) rfl (by decide) rfl ?_
  refine sE_nil ?_
  refine cE_condT rfl ?_
  refine cE_list_last ?_
  refine lE_val (v := (.pointer (some ⟨sc, 0, none⟩))) (x_move (v := (.pointer (some ⟨sc, 0, none⟩))) rfl) rfl (by decide) rfl ?_
  refine lE_val (v := e) (x_move (v := e) rfl) rfl (by decide) rfl ?_
  refine lE_val (v := (.pointer (some ⟨sc, 0, none⟩))) (x_nil rfl) rfl (by decide) rfl ?_
  refine lE_val (v := (.pointer (some ⟨sc, 7, none⟩))) (x_fld (i := 7) (by decide) rfl) rfl (by decide) rfl ?_
  refine lE_skip (x_storeB (v := e) (Tryf.sizeOf32 _) rfl rfl he hB rfl) rfl rfl ?_
  refine lE_nil ?_
  exact end_normal ⟨rfl, rfl⟩

theorem advance_calls {w : World} {sc : Nat} {rd tok buf err : Value} {st en : Nat} {cl : Bool} (hB0 : Blk w sc (scC rd tok buf st en err cl) 67) (m : Nat) (hm : st + m ≤ en) (hen : en ≤ 1000000) :
    Calls Tryf.prog 35 #[(.pointer (some ⟨sc, 0, none⟩)), .int .i64 (m : Nat)] w fun r w' => r = .returned (.bool true) ∧ w' = w.drew.setCell ⟨sc, 5, none⟩ (.int .i64 (st + m : Nat)) := by
  have hB : Blk w.drew sc (scC rd tok buf st en err cl) 67 := hB0
  have h1 : decide (((m : Nat) : Int) < 0) = false := by simp
  have h2 : decide (((en - st : Nat) : Int) < ((m : Nat) : Int)) = false := by simp; omega
  refine calls_E Tryf.func35 rfl Tryf.ntmps35 (by simp) (env2 _ _) _ (res1 Tryf.results35) ?_
  refine cE_list ?_
  refine lE_val (v := (.bool false)) (x_assign (v := (.bool false)) rfl) rfl (by decide) rfl ?_
  refine lE_nil ?_
  refine cE_seq ?_
  refine cE_list ?_
  refine lE_val (v := (.int .i64 (m : Nat))) (x_move (v := (.int .i64 (m : Nat))) rfl) rfl (by decide) rfl ?_
  refine lE_val (v := (.bool false)) (by rw [← h1]; exact x_lss rfl rfl) rfl (by decide) rfl ?_
  refine lE_nil ?_
  refine cE_condF rfl (cE_skipT ?_)
  refine cE_seq ?_
  refine cE_still (by kernel_rfl) (by kernel_rfl) ?_
  refine sE_val (v := (.int .i64 (m : Nat))) (x_move (v := (.int .i64 (m : Nat))) rfl) rfl (by decide) rfl ?_
  refine sE_val (v := (.pointer (some ⟨sc, 0, none⟩))) (x_move (v := (.pointer (some ⟨sc, 0, none⟩))) rfl) rfl (by decide) rfl ?_
  refine sE_val (v := (.pointer (some ⟨sc, 0, none⟩))) (x_nil rfl) rfl (by decide) rfl ?_
  refine sE_val (v := (.pointer (some ⟨sc, 6, none⟩))) (x_fld (i := 6) (by decide) rfl) rfl (by decide) rfl ?_
  refine sE_val (v := (.int .i64 (en : Nat))) (x_loadB (Tryf.isAgg3 _) rfl hB rfl) rfl (by decide) rfl ?_
  refine sE_val (v := (.pointer (some ⟨sc, 0, none⟩))) (x_move (v := (.pointer (some ⟨sc, 0, none⟩))) rfl) rfl (by decide) rfl ?_
  refine sE_val (v := (.pointer (some ⟨sc, 0, none⟩))) (x_nil rfl) rfl (by decide) rfl ?_
  refine sE_val (v := (.pointer (some ⟨sc, 5, none⟩))) (x_fld (i := 5) (by decide) rfl) rfl (by decide) rfl ?_
  refine sE_val (v := (.int .i64 (st : Nat))) (x_loadB (Tryf.isAgg3 _) rfl hB rfl) rfl (by decide) rfl ?_
  refine sE_val (v := (.int .i64 (en - st : Nat))) (x_sub (r := ((en - st : Nat) : Int)) rfl rfl (by omega) (by omega) (by omega)) rfl (by decide) rfl ?_
  refine sE_val (v := (.bool false)) (by rw [← h2]; exact x_gtr rfl rfl) rfl (by decide) rfl ?_
  refine sE_nil ?_
  refine cE_condF rfl (cE_skipT ?_)
  refine cE_list ?_
  refine lE_val (v := (.pointer (some ⟨sc, 0, none⟩))) (x_move (v := (.pointer (some ⟨sc, 0, none⟩))) rfl) rfl (by decide) rfl ?_
  refine lE_val (v := (.pointer (some ⟨sc, 0, none⟩))) (x_nil rfl) rfl (by decide) rfl ?_
  refine lE_val (v := (.pointer (some ⟨sc, 5, none⟩))) (x_fld (i := 5) (by decide) rfl) rfl (by decide) rfl ?_
  refine lE_val (v := (.int .i64 (st : Nat))) (x_loadB (Tryf.isAgg3 _) rfl hB rfl) rfl (by decide) rfl ?_
  refine lE_val (v := (.int .i64 (m : Nat))) (x_move (v := (.int .i64 (m : Nat))) rfl) rfl (by decide) rfl ?_
  refine lE_val (v := (.int .i64 (st + m : Nat))) (x_add (r := ((st + m : Nat) : Int)) rfl rfl (by omega) (by omega) (by omega)) rfl (by decide) rfl ?_
  refine lE_val (v := (.pointer (some ⟨sc, 0, none⟩))) (x_nil rfl) rfl (by decide) rfl ?_
  refine lE_val (v := (.pointer (some ⟨sc, 5, none⟩))) (x_fld (i := 5) (by decide) rfl) rfl (by decide) rfl ?_
  refine lE_skip (x_storeB (v := (.int .i64 (st + m : Nat))) (Tryf.sizeOf3 _) rfl rfl rfl hB rfl) rfl rfl ?_
  refine lE_nil ?_
  refine cE_list ?_
  refine lE_val (v := (.bool true)) (x_assign (v := (.bool true)) rfl) rfl (by decide) rfl ?_
  refine lE_nil ?_
  exact cE_retE ⟨rfl, rfl⟩

theorem dropCR_calls {w : World} {b off n c : Nat} {xs : List UInt8} (hn : xs.length = n) (hnc : n ≤ c) (hbig : n ≤ 1000000) (hb : Bytes w b off xs) :
    Calls Tryf.prog 41 #[(.slice (some ⟨b, off, none⟩) n c)] w fun r w' => r = .returned (.slice (some ⟨b, off, none⟩) (dropCRl xs).length c) ∧ w' = w := by
  refine calls_E Tryf.func41 rfl Tryf.ntmps41 (by simp) (env1 _) _ (res1 Tryf.results41) ?_
  by_cases h0 : n = 0
  · have h1 : decide (0 < ((n : Nat) : Int)) = false := by simp; omega
    have hx : xs = [] := List.length_eq_zero_iff.1 (by omega)
    have hres : (dropCRl xs).length = n := by rw [hx]; simp [dropCRl]; omega
    refine cE_list ?_
    refine lE_val (v := (.slice none 0 0)) (x_assign (v := (.slice none 0 0)) rfl) rfl (by decide) rfl ?_
    refine lE_nil ?_
    refine cE_seq ?_
    refine cE_list ?_
    refine lE_val (v := (.slice (some ⟨b, off, none⟩) n c)) (x_move (v := (.slice (some ⟨b, off, none⟩) n c)) rfl) rfl (by decide) rfl ?_
    refine lE_val (v := (.int .i64 (n : Nat))) (x_len rfl) rfl (by decide) rfl ?_
    refine lE_val (v := (.bool false)) (by rw [← h1]; exact x_gtr rfl rfl) rfl (by decide) rfl ?_
    refine lE_val (v := (.bool false)) (x_move (v := (.bool false)) rfl) rfl (by decide) rfl ?_
    refine lE_gskip rfl (by decide) rfl rfl (by decide) (.inl rfl) ?_
    refine lE_gskip rfl (by decide) rfl rfl (by decide) (.inl rfl) ?_
    refine lE_gskip rfl (by decide) rfl rfl (by decide) (.inl rfl) ?_
    refine lE_gskip rfl (by decide) rfl rfl (by decide) (.inl rfl) ?_
    refine lE_gskip rfl (by decide) rfl rfl (by decide) (.inl rfl) ?_
    refine lE_gskip rfl (by decide) rfl rfl (by decide) (.inl rfl) ?_
    refine lE_gskip rfl (by decide) rfl rfl (by decide) (.inl rfl) ?_
    refine lE_val (v := (.bool false)) (x_pickF (v := (.bool false)) rfl rfl) rfl (by decide) rfl ?_
    refine lE_nil ?_
    refine cE_condF rfl (cE_skipT ?_)
    refine cE_list ?_
    refine lE_val (v := (.slice (some ⟨b, off, none⟩) n c)) (x_move (v := (.slice (some ⟨b, off, none⟩) n c)) rfl) rfl (by decide) rfl ?_
    refine lE_val (v := (.slice (some ⟨b, off, none⟩) n c)) (x_assign (v := (.slice (some ⟨b, off, none⟩) n c)) rfl) rfl (by decide) rfl ?_
    refine lE_nil ?_
    exact cE_retE ⟨by rw [hres]; rfl, rfl⟩
  · have h1 : decide (0 < ((n : Nat) : Int)) = true := by simp; omega
    have hcell := hb (n - 1) (by omega)
    have hlast : xs.getLast? = some (xs.getD (n - 1) 0) := by
      rw [List.getLast?_eq_getElem?, hn]
      simp [show n - 1 < xs.length by omega]
    by_cases hx : xs.getD (n - 1) 0 = 13
    · have h2 : ((((xs.getD (n - 1) 0).toNat : Nat) : Int) == 13) = true := by rw [hx]; rfl
      have hres : (dropCRl xs).length = n - 1 := by
        unfold dropCRl
        rw [hlast, if_pos (by rw [hx]), List.length_dropLast, hn]
      refine cE_list ?_
      refine lE_val (v := (.slice none 0 0)) (x_assign (v := (.slice none 0 0)) rfl) rfl (by decide) rfl ?_
      refine lE_nil ?_
      refine cE_seq ?_
      refine cE_list ?_
      refine lE_val (v := (.slice (some ⟨b, off, none⟩) n c)) (x_move (v := (.slice (some ⟨b, off, none⟩) n c)) rfl) rfl (by decide) rfl ?_
      refine lE_val (v := (.int .i64 (n : Nat))) (x_len rfl) rfl (by decide) rfl ?_
      refine lE_val (v := (.bool true)) (by rw [← h1]; exact x_gtr rfl rfl) rfl (by decide) rfl ?_
      refine lE_val (v := (.bool true)) (x_move (v := (.bool true)) rfl) rfl (by decide) rfl ?_
      refine lE_gval (v := (.slice (some ⟨b, off, none⟩) n c)) (x_move (v := (.slice (some ⟨b, off, none⟩) n c)) rfl) rfl (by decide) rfl rfl (by decide) rfl ?_
      refine lE_gval (v := (.slice (some ⟨b, off, none⟩) n c)) (x_move (v := (.slice (some ⟨b, off, none⟩) n c)) rfl) rfl (by decide) rfl rfl (by decide) rfl ?_
      refine lE_gval (v := (.int .i64 (n : Nat))) (x_len rfl) rfl (by decide) rfl rfl (by decide) rfl ?_
      refine lE_gval (v := (.int .i64 (n - 1 : Nat))) (x_sub (r := ((n - 1 : Nat) : Int)) rfl rfl (by omega) (by omega) (by omega)) rfl (by decide) rfl rfl (by decide) rfl ?_
      refine lE_gval (v := (.pointer (some ⟨b, off + (n - 1), none⟩))) (x_indexAddr Tryf.underlying65 (Tryf.sizeOf5 _) rfl rfl (by omega)) rfl (by decide) rfl rfl (by decide) rfl ?_
      refine lE_gval (v := (byteV (xs.getD (n - 1) 0))) (x_load (Tryf.isAgg5 _) rfl hcell) rfl (by decide) rfl rfl (by decide) rfl ?_
      refine lE_gval (v := (.bool true)) (by rw [← h2]; exact x_eqlu8 rfl rfl) rfl (by decide) rfl rfl (by decide) rfl ?_
      refine lE_val (v := (.bool true)) (x_pickT (v := (.bool true)) rfl rfl) rfl (by decide) rfl ?_
      refine lE_nil ?_
      refine cE_condT rfl ?_
      refine cE_list ?_
      refine lE_val (v := (.slice (some ⟨b, off, none⟩) n c)) (x_move (v := (.slice (some ⟨b, off, none⟩) n c)) rfl) rfl (by decide) rfl ?_
      refine lE_val (v := (.slice (some ⟨b, off, none⟩) n c)) (x_move (v := (.slice (some ⟨b, off, none⟩) n c)) rfl) rfl (by decide) rfl ?_
      refine lE_val (v := (.int .i64 (n : Nat))) (x_len rfl) rfl (by decide) rfl ?_
      refine lE_val (v := (.int .i64 (n - 1 : Nat))) (x_sub (r := ((n - 1 : Nat) : Int)) rfl rfl (by omega) (by omega) (by omega)) rfl (by decide) rfl ?_
      refine lE_val (v := (.slice (some ⟨b, off, none⟩) (n - 1) c)) (x_slice0 rfl rfl rfl (by omega)) rfl (by decide) rfl ?_
      refine lE_val (v := (.slice (some ⟨b, off, none⟩) (n - 1) c)) (x_assign (v := (.slice (some ⟨b, off, none⟩) (n - 1) c)) rfl) rfl (by decide) rfl ?_
      refine lE_nil ?_
      exact cE_retE1 ⟨by rw [hres]; rfl, rfl⟩
    · have h2 : ((((xs.getD (n - 1) 0).toNat : Nat) : Int) == 13) = false := by
        rw [beq_eq_false_iff_ne]
        intro e
        apply hx
        apply UInt8.toNat_inj.1
        have : (13 : UInt8).toNat = 13 := rfl
        omega
      have hres : (dropCRl xs).length = n := by
        unfold dropCRl
        rw [hlast, if_neg (by intro e; exact hx (Option.some.inj e))]
        exact hn
      refine cE_list ?_
      refine lE_val (v := (.slice none 0 0)) (x_assign (v := (.slice none 0 0)) rfl) rfl (by decide) rfl ?_
      refine lE_nil ?_
      refine cE_seq ?_
      refine cE_list ?_
      refine lE_val (v := (.slice (some ⟨b, off, none⟩) n c)) (x_move (v := (.slice (some ⟨b, off, none⟩) n c)) rfl) rfl (by decide) rfl ?_
      refine lE_val (v := (.int .i64 (n : Nat))) (x_len rfl) rfl (by decide) rfl ?_
      refine lE_val (v := (.bool true)) (by rw [← h1]; exact x_gtr rfl rfl) rfl (by decide) rfl ?_
      refine lE_val (v := (.bool true)) (x_move (v := (.bool true)) rfl) rfl (by decide) rfl ?_
      refine lE_gval (v := (.slice (some ⟨b, off, none⟩) n c)) (x_move (v := (.slice (some ⟨b, off, none⟩) n c)) rfl) rfl (by decide) rfl rfl (by decide) rfl ?_
      refine lE_gval (v := (.slice (some ⟨b, off, none⟩) n c)) (x_move (v := (.slice (some ⟨b, off, none⟩) n c)) rfl) rfl (by decide) rfl rfl (by decide) rfl ?_
      refine lE_gval (v := (.int .i64 (n : Nat))) (x_len rfl) rfl (by decide) rfl rfl (by decide) rfl ?_
      refine lE_gval (v := (.int .i64 (n - 1 : Nat))) (x_sub (r := ((n - 1 : Nat) : Int)) rfl rfl (by omega) (by omega) (by omega)) rfl (by decide) rfl rfl (by decide) rfl ?_
      refine lE_gval (v := (.pointer (some ⟨b, off + (n - 1), none⟩))) (x_indexAddr Tryf.underlying65 (Tryf.sizeOf5 _) rfl rfl (by omega)) rfl (by decide) rfl rfl (by decide) rfl ?_
      refine lE_gval (v := (byteV (xs.getD (n - 1) 0))) (x_load (Tryf.isAgg5 _) rfl hcell) rfl (by decide) rfl rfl (by decide) rfl ?_
      refine lE_gval (v := (.bool false)) (by rw [← h2]; exact x_eqlu8 rfl rfl) rfl (by decide) rfl rfl (by decide) rfl ?_
      refine lE_val (v := (.bool false)) (x_pickT (v := (.bool false)) rfl rfl) rfl (by decide) rfl ?_
      refine lE_nil ?_
      refine cE_condF rfl (cE_skipT ?_)
      refine cE_list ?_
      refine lE_val (v := (.slice (some ⟨b, off, none⟩) n c)) (x_move (v := (.slice (some ⟨b, off, none⟩) n c)) rfl) rfl (by decide) rfl ?_
      refine lE_val (v := (.slice (some ⟨b, off, none⟩) n c)) (x_assign (v := (.slice (some ⟨b, off, none⟩) n c)) rfl) rfl (by decide) rfl ?_
      refine lE_nil ?_
      exact cE_retE ⟨by rw [hres]; rfl, rfl⟩

theorem indexByte_calls {w : World} {b off n c : Nat} {xs : List UInt8} (hn : xs.length = n) (hb : Bytes w b off xs) :
    Calls Tryf.prog 40 #[(.slice (some ⟨b, off, none⟩) n c), .int .u8 10] w fun r w' => r = .returned (.int .i64 (Lib.indexByte xs 10)) ∧ w' = w := by
  refine calls_E Tryf.func40 rfl Tryf.ntmps40 (by simp) (env2 _ _) _ (res1 Tryf.results40) ?_
  refine cE_list ?_
  refine lE_val (v := (.int .i64 0)) (x_assign (v := (.int .i64 0)) rfl) rfl (by decide) rfl ?_
  refine lE_nil ?_
  refine cE_list ?_
  refine lE_val (v := (.slice (some ⟨b, off, none⟩) n c)) (x_move (v := (.slice (some ⟨b, off, none⟩) n c)) rfl) rfl (by decide) rfl ?_
  refine lE_val (v := (.int .u8 10)) (x_move (v := (.int .u8 10)) rfl) rfl (by decide) rfl ?_
  refine lE_val (v := (.int .i64 (Lib.indexByte xs 10))) (x_indexByte rfl rfl rfl hn hb) rfl (by decide) rfl ?_
  refine lE_val (v := (.int .i64 (Lib.indexByte xs 10))) (x_assign (v := (.int .i64 (Lib.indexByte xs 10))) rfl) rfl (by decide) rfl ?_
  refine lE_nil ?_
  exact cE_retE ⟨rfl, rfl⟩

theorem scanLines_found {w : World} {b off n c : Nat} {xs : List UInt8} (hn : xs.length = n) (hnc : n ≤ c) (hbig : n ≤ 1000000) (hb : Bytes w b off xs) (at_ : Bool) {j : Nat} (hj : Lib.indexByte xs 10 = (j : Int)) (hjn : j < n) :
    Calls Tryf.prog 39 #[(.slice (some ⟨b, off, none⟩) n c), .bool at_] w fun r w' => r = .returned (.tuple #[.int .i64 (j + 1 : Nat), .slice (some ⟨b, off, none⟩) (dropCRl (xs.take j)).length c, .nilIface]) ∧ w' = w := by
  have h1 : decide ((0 : Int) ≤ Lib.indexByte xs 10) = true := by simp; omega
  have h0 : (((n : Nat) : Int) == 0) = false := by rw [beq_eq_false_iff_ne]; omega
  have hz0 : ∀ v : Value, Value.int .i64 (Lib.indexByte xs 10) = v → v = .int .i64 (j : Nat) := fun v e => by rw [← e, hj]
  cases at_
  · refine calls_E Tryf.func39 rfl Tryf.ntmps39 (by simp) (env2 _ _) _ (res3 Tryf.results39) ?_
    refine cE_list ?_
    refine lE_val (v := (.int .i64 0)) (x_assign (v := (.int .i64 0)) rfl) rfl (by decide) rfl ?_
    refine lE_val (v := (.slice none 0 0)) (x_assign (v := (.slice none 0 0)) rfl) rfl (by decide) rfl ?_
    refine lE_val (v := .nilIface) (x_assign (v := .nilIface) rfl) rfl (by decide) rfl ?_
    refine lE_nil ?_
    refine cE_seq ?_
    refine cE_list ?_
    refine lE_val (v := (.bool false)) (x_move (v := (.bool false)) rfl) rfl (by decide) rfl ?_
    refine lE_val (v := (.bool false)) (x_move (v := (.bool false)) rfl) rfl (by decide) rfl ?_
    refine lE_gskip rfl (by decide) rfl rfl (by decide) (.inl rfl) ?_
    refine lE_gskip rfl (by decide) rfl rfl (by decide) (.inl rfl) ?_
    refine lE_gskip rfl (by decide) rfl rfl (by decide) (.inl rfl) ?_
    refine lE_val (v := (.bool false)) (x_pickF (v := (.bool false)) rfl rfl) rfl (by decide) rfl ?_
    refine lE_nil ?_
    refine cE_condF rfl (cE_skipT ?_)
    refine cE_seq ?_
    refine cE_list ?_
    refine lE_val (v := (.slice (some ⟨b, off, none⟩) n c)) (x_move (v := (.slice (some ⟨b, off, none⟩) n c)) rfl) rfl (by decide) rfl ?_
    refine lE_call (x_call2 Tryf.func40 (by kernel_rfl) (by kernel_rfl) rfl rfl rfl) rfl (by decide) rfl ?_
    refine Calls.mono (indexByte_calls hn hb) ?_
    intro r w1 hr; obtain ⟨hr1, hr2⟩ := hr; rw [hr1, hr2]; refine ⟨_, rfl, ?_⟩
    refine lE_val (v := (.int .i64 (Lib.indexByte xs 10))) (x_assign (v := (.int .i64 (Lib.indexByte xs 10))) rfl) rfl (by decide) rfl ?_
    refine lE_nil ?_
    refine cE_list ?_
    refine lE_val (v := (.int .i64 (Lib.indexByte xs 10))) (x_move (v := (.int .i64 (Lib.indexByte xs 10))) rfl) rfl (by decide) rfl ?_
    refine lE_val (v := (.bool true)) (by rw [← h1]; exact x_geq rfl rfl) rfl (by decide) rfl ?_
    refine lE_nil ?_
    refine cE_condT rfl ?_
    refine cE_list ?_
    refine lE_val (v := (.int .i64 (Lib.indexByte xs 10))) (x_move (v := (.int .i64 (Lib.indexByte xs 10))) rfl) rfl (by decide) rfl ?_
    refine lE_val (v := (.int .i64 (j + 1 : Nat))) (x_add (r := ((j + 1 : Nat) : Int)) rfl rfl (by omega) (by omega) (by omega)) rfl (by decide) rfl ?_
    refine lE_val (v := (.slice (some ⟨b, off, none⟩) n c)) (x_move (v := (.slice (some ⟨b, off, none⟩) n c)) rfl) rfl (by decide) rfl ?_
    refine lE_val (v := (.int .i64 (Lib.indexByte xs 10))) (x_move (v := (.int .i64 (Lib.indexByte xs 10))) rfl) rfl (by decide) rfl ?_
    refine lE_val (v := (.slice (some ⟨b, off, none⟩) j c)) (x_slice0 rfl rfl (hz0 _ rfl) (by omega)) rfl (by decide) rfl ?_
    refine lE_call (x_call1 Tryf.func41 (by kernel_rfl) (by kernel_rfl) rfl rfl) rfl (by decide) rfl ?_
    refine Calls.mono (dropCR_calls (xs := xs.take j) (by simp; omega) (by omega) (by omega) (hb.take j)) ?_
    intro r w1 hr; obtain ⟨hr1, hr2⟩ := hr; rw [hr1, hr2]; refine ⟨_, rfl, ?_⟩
    refine lE_val (v := (.int .i64 (j + 1 : Nat))) (x_assign (v := (.int .i64 (j + 1 : Nat))) rfl) rfl (by decide) rfl ?_
    refine lE_val (v := (.slice (some ⟨b, off, none⟩) (dropCRl (xs.take j)).length c)) (x_assign (v := (.slice (some ⟨b, off, none⟩) (dropCRl (xs.take j)).length c)) rfl) rfl (by decide) rfl ?_
    refine lE_val (v := .nilIface) (x_assign (v := .nilIface) rfl) rfl (by decide) rfl ?_
    refine lE_nil ?_
    exact cE_retE1 ⟨rfl, rfl⟩
  · refine calls_E Tryf.func39 rfl Tryf.ntmps39 (by simp) (env2 _ _) _ (res3 Tryf.results39) ?_
    refine cE_list ?_
    refine lE_val (v := (.int .i64 0)) (x_assign (v := (.int .i64 0)) rfl) rfl (by decide) rfl ?_
    refine lE_val (v := (.slice none 0 0)) (x_assign (v := (.slice none 0 0)) rfl) rfl (by decide) rfl ?_
    refine lE_val (v := .nilIface) (x_assign (v := .nilIface) rfl) rfl (by decide) rfl ?_
    refine lE_nil ?_
    refine cE_seq ?_
    refine cE_list ?_
    refine lE_val (v := (.bool true)) (x_move (v := (.bool true)) rfl) rfl (by decide) rfl ?_
    refine lE_val (v := (.bool true)) (x_move (v := (.bool true)) rfl) rfl (by decide) rfl ?_
    refine lE_gval (v := (.slice (some ⟨b, off, none⟩) n c)) (x_move (v := (.slice (some ⟨b, off, none⟩) n c)) rfl) rfl (by decide) rfl rfl (by decide) rfl ?_
    refine lE_gval (v := (.int .i64 (n : Nat))) (x_len rfl) rfl (by decide) rfl rfl (by decide) rfl ?_
    refine lE_gval (v := (.bool false)) (by rw [← h0]; exact x_eql rfl rfl) rfl (by decide) rfl rfl (by decide) rfl ?_
    refine lE_val (v := (.bool false)) (x_pickT (v := (.bool false)) rfl rfl) rfl (by decide) rfl ?_
    refine lE_nil ?_
    refine cE_condF rfl (cE_skipT ?_)
    refine cE_seq ?_
    refine cE_list ?_
    refine lE_val (v := (.slice (some ⟨b, off, none⟩) n c)) (x_move (v := (.slice (some ⟨b, off, none⟩) n c)) rfl) rfl (by decide) rfl ?_
    refine lE_call (x_call2 Tryf.func40 (by kernel_rfl) (by kernel_rfl) rfl rfl rfl) rfl (by decide) rfl ?_
    refine Calls.mono (indexByte_calls hn hb) ?_
    intro r w1 hr; obtain ⟨hr1, hr2⟩ := hr; rw [hr1, hr2]; refine ⟨_, rfl, ?_⟩
    refine lE_val (v := (.int .i64 (Lib.indexByte xs 10))) (x_assign (v := (.int .i64 (Lib.indexByte xs 10))) rfl) rfl (by decide) rfl ?_
    refine lE_nil ?_
    refine cE_list ?_
    refine lE_val (v := (.int .i64 (Lib.indexByte xs 10))) (x_move (v := (.int .i64 (Lib.indexByte xs 10))) rfl) rfl (by decide) rfl ?_
    refine lE_val (v := (.bool true)) (by rw [← h1]; exact x_geq rfl rfl) rfl (by decide) rfl ?_
    refine lE_nil ?_
    refine cE_condT rfl ?_
    refine cE_list ?_
    refine lE_val (v := (.int .i64 (Lib.indexByte xs 10))) (x_move (v := (.int .i64 (Lib.indexByte xs 10))) rfl) rfl (by decide) rfl ?_
    refine lE_val (v := (.int .i64 (j + 1 : Nat))) (x_add (r := ((j + 1 : Nat) : Int)) rfl rfl (by omega) (by omega) (by omega)) rfl (by decide) rfl ?_
    refine lE_val (v := (.slice (some ⟨b, off, none⟩) n c)) (x_move (v := (.slice (some ⟨b, off, none⟩) n c)) rfl) rfl (by decide) rfl ?_
    refine lE_val (v := (.int .i64 (Lib.indexByte xs 10))) (x_move (v := (.int .i64 (Lib.indexByte xs 10))) rfl) rfl (by decide) rfl ?_
    refine lE_val (v := (.slice (some ⟨b, off, none⟩) j c)) (x_slice0 rfl rfl (hz0 _ rfl) (by omega)) rfl (by decide) rfl ?_
    refine lE_call (x_call1 Tryf.func41 (by kernel_rfl) (by kernel_rfl) rfl rfl) rfl (by decide) rfl ?_
    refine Calls.mono (dropCR_calls (xs := xs.take j) (by simp; omega) (by omega) (by omega) (hb.take j)) ?_
    intro r w1 hr; obtain ⟨hr1, hr2⟩ := hr; rw [hr1, hr2]; refine ⟨_, rfl, ?_⟩
    refine lE_val (v := (.int .i64 (j + 1 : Nat))) (x_assign (v := (.int .i64 (j + 1 : Nat))) rfl) rfl (by decide) rfl ?_
    refine lE_val (v := (.slice (some ⟨b, off, none⟩) (dropCRl (xs.take j)).length c)) (x_assign (v := (.slice (some ⟨b, off, none⟩) (dropCRl (xs.take j)).length c)) rfl) rfl (by decide) rfl ?_
    refine lE_val (v := .nilIface) (x_assign (v := .nilIface) rfl) rfl (by decide) rfl ?_
    refine lE_nil ?_
    exact cE_retE1 ⟨rfl, rfl⟩

theorem scanLines_last {w : World} {b off n c : Nat} {xs : List UInt8} (hn : xs.length = n) (hnc : n ≤ c) (hbig : n ≤ 1000000) (hb : Bytes w b off xs) (hpos : 0 < n) (hj : Lib.indexByte xs 10 = -1) :
    Calls Tryf.prog 39 #[(.slice (some ⟨b, off, none⟩) n c), .bool true] w fun r w' => r = .returned (.tuple #[.int .i64 (n : Nat), .slice (some ⟨b, off, none⟩) (dropCRl xs).length c, .nilIface]) ∧ w' = w := by
  have h1 : decide ((0 : Int) ≤ Lib.indexByte xs 10) = false := by rw [hj]; rfl
  have h0 : (((n : Nat) : Int) == 0) = false := by rw [beq_eq_false_iff_ne]; omega
  refine calls_E Tryf.func39 rfl Tryf.ntmps39 (by simp) (env2 _ _) _ (res3 Tryf.results39) ?_
  refine cE_list ?_
  refine lE_val (v := (.int .i64 0)) (x_assign (v := (.int .i64 0)) rfl) rfl (by decide) rfl ?_
  refine lE_val (v := (.slice none 0 0)) (x_assign (v := (.slice none 0 0)) rfl) rfl (by decide) rfl ?_
  refine lE_val (v := .nilIface) (x_assign (v := .nilIface) rfl) rfl (by decide) rfl ?_
  refine lE_nil ?_
  refine cE_seq ?_
  refine cE_list ?_
  refine lE_val (v := (.bool true)) (x_move (v := (.bool true)) rfl) rfl (by decide) rfl ?_
  refine lE_val (v := (.bool true)) (x_move (v := (.bool true)) rfl) rfl (by decide) rfl ?_
  refine lE_gval (v := (.slice (some ⟨b, off, none⟩) n c)) (x_move (v := (.slice (some ⟨b, off, none⟩) n c)) rfl) rfl (by decide) rfl rfl (by decide) rfl ?_
  refine lE_gval (v := (.int .i64 (n : Nat))) (x_len rfl) rfl (by decide) rfl rfl (by decide) rfl ?_
  refine lE_gval (v := (.bool false)) (by rw [← h0]; exact x_eql rfl rfl) rfl (by decide) rfl rfl (by decide) rfl ?_
  refine lE_val (v := (.bool false)) (x_pickT (v := (.bool false)) rfl rfl) rfl (by decide) rfl ?_
  refine lE_nil ?_
  refine cE_condF rfl (cE_skipT ?_)
  refine cE_seq ?_
  refine cE_list ?_
  refine lE_val (v := (.slice (some ⟨b, off, none⟩) n c)) (x_move (v := (.slice (some ⟨b, off, none⟩) n c)) rfl) rfl (by decide) rfl ?_
  refine lE_call (x_call2 Tryf.func40 (by kernel_rfl) (by kernel_rfl) rfl rfl rfl) rfl (by decide) rfl ?_
  refine Calls.mono (indexByte_calls hn hb) ?_
  intro r w1 hr; obtain ⟨hr1, hr2⟩ := hr; rw [hr1, hr2]; refine ⟨_, rfl, ?_⟩
  refine lE_val (v := (.int .i64 (Lib.indexByte xs 10))) (x_assign (v := (.int .i64 (Lib.indexByte xs 10))) rfl) rfl (by decide) rfl ?_
  refine lE_nil ?_
  refine cE_list ?_
  refine lE_val (v := (.int .i64 (Lib.indexByte xs 10))) (x_move (v := (.int .i64 (Lib.indexByte xs 10))) rfl) rfl (by decide) rfl ?_
  refine lE_val (v := (.bool false)) (by rw [← h1]; exact x_geq rfl rfl) rfl (by decide) rfl ?_
  refine lE_nil ?_
  refine cE_condF rfl (cE_skipT ?_)
  refine cE_seq ?_
  refine cE_list ?_
  refine lE_val (v := (.bool true)) (x_move (v := (.bool true)) rfl) rfl (by decide) rfl ?_
  refine lE_nil ?_
  refine cE_condT rfl ?_
  refine cE_list ?_
  refine lE_val (v := (.slice (some ⟨b, off, none⟩) n c)) (x_move (v := (.slice (some ⟨b, off, none⟩) n c)) rfl) rfl (by decide) rfl ?_
  refine lE_val (v := (.int .i64 (n : Nat))) (x_len rfl) rfl (by decide) rfl ?_
  refine lE_val (v := (.slice (some ⟨b, off, none⟩) n c)) (x_move (v := (.slice (some ⟨b, off, none⟩) n c)) rfl) rfl (by decide) rfl ?_
  refine lE_call (x_call1 Tryf.func41 (by kernel_rfl) (by kernel_rfl) rfl rfl) rfl (by decide) rfl ?_
  refine Calls.mono (dropCR_calls hn hnc hbig hb) ?_
  intro r w1 hr; obtain ⟨hr1, hr2⟩ := hr; rw [hr1, hr2]; refine ⟨_, rfl, ?_⟩
  refine lE_val (v := (.int .i64 (n : Nat))) (x_assign (v := (.int .i64 (n : Nat))) rfl) rfl (by decide) rfl ?_
  refine lE_val (v := (.slice (some ⟨b, off, none⟩) (dropCRl xs).length c)) (x_assign (v := (.slice (some ⟨b, off, none⟩) (dropCRl xs).length c)) rfl) rfl (by decide) rfl ?_
  refine lE_val (v := .nilIface) (x_assign (v := .nilIface) rfl) rfl (by decide) rfl ?_
  refine lE_nil ?_
  exact cE_retE1 ⟨rfl, rfl⟩

theorem scanLines_more {w : World} {b off n c : Nat} {xs : List UInt8} (hn : xs.length = n) (hb : Bytes w b off xs) (hj : Lib.indexByte xs 10 = -1) :
    Calls Tryf.prog 39 #[(.slice (some ⟨b, off, none⟩) n c), .bool false] w fun r w' => r = .returned (.tuple #[.int .i64 0, .slice none 0 0, .nilIface]) ∧ w' = w := by
  have h1 : decide ((0 : Int) ≤ Lib.indexByte xs 10) = false := by rw [hj]; rfl
  refine calls_E Tryf.func39 rfl Tryf.ntmps39 (by simp) (env2 _ _) _ (res3 Tryf.results39) ?_
  refine cE_list ?_
  refine lE_val (v := (.int .i64 0)) (x_assign (v := (.int .i64 0)) rfl) rfl (by decide) rfl ?_
  refine lE_val (v := (.slice none 0 0)) (x_assign (v := (.slice none 0 0)) rfl) rfl (by decide) rfl ?_
  refine lE_val (v := .nilIface) (x_assign (v := .nilIface) rfl) rfl (by decide) rfl ?_
  refine lE_nil ?_
  refine cE_seq ?_
  refine cE_list ?_
  refine lE_val (v := (.bool false)) (x_move (v := (.bool false)) rfl) rfl (by decide) rfl ?_
  refine lE_val (v := (.bool false)) (x_move (v := (.bool false)) rfl) rfl (by decide) rfl ?_
  refine lE_gskip rfl (by decide) rfl rfl (by decide) (.inl rfl) ?_
  refine lE_gskip rfl (by decide) rfl rfl (by decide) (.inl rfl) ?_
  refine lE_gskip rfl (by decide) rfl rfl (by decide) (.inl rfl) ?_
  refine lE_val (v := (.bool false)) (x_pickF (v := (.bool false)) rfl rfl) rfl (by decide) rfl ?_
  refine lE_nil ?_
  refine cE_condF rfl (cE_skipT ?_)
  refine cE_seq ?_
  refine cE_list ?_
  refine lE_val (v := (.slice (some ⟨b, off, none⟩) n c)) (x_move (v := (.slice (some ⟨b, off, none⟩) n c)) rfl) rfl (by decide) rfl ?_
  refine lE_call (x_call2 Tryf.func40 (by kernel_rfl) (by kernel_rfl) rfl rfl rfl) rfl (by decide) rfl ?_
  refine Calls.mono (indexByte_calls hn hb) ?_
  intro r w1 hr; obtain ⟨hr1, hr2⟩ := hr; rw [hr1, hr2]; refine ⟨_, rfl, ?_⟩
  refine lE_val (v := (.int .i64 (Lib.indexByte xs 10))) (x_assign (v := (.int .i64 (Lib.indexByte xs 10))) rfl) rfl (by decide) rfl ?_
  refine lE_nil ?_
  refine cE_list ?_
  refine lE_val (v := (.int .i64 (Lib.indexByte xs 10))) (x_move (v := (.int .i64 (Lib.indexByte xs 10))) rfl) rfl (by decide) rfl ?_
  refine lE_val (v := (.bool false)) (by rw [← h1]; exact x_geq rfl rfl) rfl (by decide) rfl ?_
  refine lE_nil ?_
  refine cE_condF rfl (cE_skipT ?_)
  refine cE_seq ?_
  refine cE_list ?_
  refine lE_val (v := (.bool false)) (x_move (v := (.bool false)) rfl) rfl (by decide) rfl ?_
  refine lE_nil ?_
  refine cE_condF rfl (cE_skipT ?_)
  refine cE_list ?_
  refine lE_val (v := (.int .i64 0)) (x_assign (v := (.int .i64 0)) rfl) rfl (by decide) rfl ?_
  refine lE_val (v := (.slice none 0 0)) (x_assign (v := (.slice none 0 0)) rfl) rfl (by decide) rfl ?_
  refine lE_val (v := .nilIface) (x_assign (v := .nilIface) rfl) rfl (by decide) rfl ?_
  refine lE_nil ?_
  exact cE_retE ⟨rfl, rfl⟩

theorem scanLines_end {w : World} {b off c : Nat} :
    Calls Tryf.prog 39 #[(.slice (some ⟨b, off, none⟩) 0 c), .bool true] w fun r w' => r = .returned (.tuple #[.int .i64 0, .slice none 0 0, .nilIface]) ∧ w' = w := by
  have h0 : (((0 : Nat) : Int) == 0) = true := rfl
  refine calls_E Tryf.func39 rfl Tryf.ntmps39 (by simp) (env2 _ _) _ (res3 Tryf.results39) ?_
  refine cE_list ?_
  refine lE_val (v := (.int .i64 0)) (x_assign (v := (.int .i64 0)) rfl) rfl (by decide) rfl ?_
  refine lE_val (v := (.slice none 0 0)) (x_assign (v := (.slice none 0 0)) rfl) rfl (by decide) rfl ?_
  refine lE_val (v := .nilIface) (x_assign (v := .nilIface) rfl) rfl (by decide) rfl ?_
  refine lE_nil ?_
  refine cE_seq ?_
  refine cE_list ?_
  refine lE_val (v := (.bool true)) (x_move (v := (.bool true)) rfl) rfl (by decide) rfl ?_
  refine lE_val (v := (.bool true)) (x_move (v := (.bool true)) rfl) rfl (by decide) rfl ?_
  refine lE_gval (v := (.slice (some ⟨b, off, none⟩) 0 c)) (x_move (v := (.slice (some ⟨b, off, none⟩) 0 c)) rfl) rfl (by decide) rfl rfl (by decide) rfl ?_
  refine lE_gval (v := (.int .i64 (0 : Nat))) (x_len rfl) rfl (by decide) rfl rfl (by decide) rfl ?_
  refine lE_gval (v := (.bool true)) (by rw [← h0]; exact x_eql rfl rfl) rfl (by decide) rfl rfl (by decide) rfl ?_
  refine lE_val (v := (.bool true)) (x_pickT (v := (.bool true)) rfl rfl) rfl (by decide) rfl ?_
  refine lE_nil ?_
  refine cE_condT rfl ?_
  refine cE_list ?_
  refine lE_val (v := (.int .i64 0)) (x_assign (v := (.int .i64 0)) rfl) rfl (by decide) rfl ?_
  refine lE_val (v := (.slice none 0 0)) (x_assign (v := (.slice none 0 0)) rfl) rfl (by decide) rfl ?_
  refine lE_val (v := .nilIface) (x_assign (v := .nilIface) rfl) rfl (by decide) rfl ?_
  refine lE_nil ?_
  exact cE_retE1 ⟨rfl, rfl⟩

end Go.Proofs.Qxb6613145aFmt
