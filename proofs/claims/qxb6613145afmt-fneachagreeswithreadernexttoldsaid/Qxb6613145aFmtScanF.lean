/-
  (*bufio.Scanner).Scan: ITS CONTRACT.
-/
import Derived.Test.Qxb6613145aFmtScanE
namespace Go.Proofs.Qxb6613145aFmt
open Go.RowKit
set_option maxRecDepth 100000

def TokIs (w : World) (tok : Value) (line : List UInt8) : Prop := ∃ b off c, tok = .slice (some ⟨b, off, none⟩) line.length c ∧ Bytes w b off line

def ScanYes (w0 : World) (sc sr : Nat) (te : TypeId) (tv : Value) (s : ByteArray) (rest : List UInt8) (ob : Option Nat) (w' : World) : Prop :=
  rest ≠ [] ∧ ∃ ob' L bs st en i pr err tok, St w' sc sr te tv s (restOf rest) ob' L bs st en i pr err tok true ∧ TokIs w' tok (dropCRl (lineOf rest)) ∧ Keep (Own sc sr ob) w0 w' ∧ Fresh w0 ob ob'
def ScanNo (w0 : World) (sc sr : Nat) (te : TypeId) (tv : Value) (s : ByteArray) (rest : List UInt8) (ob : Option Nat) (w' : World) : Prop :=
  rest = [] ∧ ∃ ob' L bs i pr tok, St w' sc sr te tv s [] ob' L bs 0 0 i pr (.iface te tv) tok true ∧ Keep (Own sc sr ob) w0 w' ∧ Fresh w0 ob ob'

section
variable {Q : Exit → Env → World → Prop} {E : Env} {w : World} {sc sr : Nat} {te : TypeId} {tv : Value} {s : ByteArray} {rest : List UInt8} {ob : Option Nat} {L : Nat} {bs : List UInt8} {st en i : Nat} {pr : Int} {tok err : Value}

theorem bytes_of_line {w' : World} {bf : Nat} {xs ys : List UInt8} {off : Nat} (h : Bytes w' bf off xs) (hp : ys = xs.take ys.length) : Bytes w' bf off ys := by
  rw [hp]; exact h.take _

/-- A newline among the bytes at hand. -/
theorem yes_found {bf j : Nat} (h : St w sc sr te tv s rest (some bf) L bs st en i pr err tok true) (hlt : st < en) (hj : Lib.indexByte ((bs.drop st).take (en - st)) 10 = (j : Int)) (hjn : j < en - st) {w' : World}
    (hB' : Blk w' sc (scC (rdV sr) (.slice (some ⟨bf, st, none⟩) (dropCRl (((bs.drop st).take (en - st)).take j)).length (L - st)) (bufV (some bf) L) (st + (j + 1)) en err true) 67) (hK : Keep (fun k => k = sc) w w') :
    ScanYes w sc sr te tv s rest (some bf) w' := by
  obtain ⟨hx, hn⟩ := Lib.indexByte_some hj
  have hl := line_at (l := s.data.toList.drop i) hx hn
  have hen := h.hen
  have hlen := h.hlen
  have hbuf := h.hbuf
  rw [← h.hrest] at hl
  have hst : St w' sc sr te tv s (restOf rest) (some bf) L bs (st + (j + 1)) en i pr err _ true :=
    h.own hK hB' (by omega) h.hen (by omega) (by rw [hl.2, List.drop_take, List.drop_drop, Nat.sub_sub]) h.herr
  refine ⟨?_, some bf, L, bs, _, _, i, pr, err, _, hst, ?_, keepSc hK, .inl rfl⟩
  · rw [h.hrest]
    intro e
    have e2 := congrArg List.length e
    simp only [List.length_append, List.length_take, List.length_drop, List.length_nil] at e2
    omega
  · rw [hl.1]
    refine ⟨bf, st, L - st, rfl, ?_⟩
    refine bytes_of_line (Bytes.take (Bytes.of_block (hst.hF bf rfl) (en - st)) j) ?_
    exact dropCRl_prefix _

/-- None, and the input is at its end. -/
theorem yes_last {bf : Nat} (h : St w sc sr te tv s rest (some bf) L bs st en i pr err tok true) (hlt : st < en) (hj : Lib.indexByte ((bs.drop st).take (en - st)) 10 = -1) (hi : i = s.size) {w' : World}
    (hB' : Blk w' sc (scC (rdV sr) (.slice (some ⟨bf, st, none⟩) (dropCRl ((bs.drop st).take (en - st))).length (L - st)) (bufV (some bf) L) (st + (en - st)) en err true) 67) (hK : Keep (fun k => k = sc) w w') :
    ScanYes w sc sr te tv s rest (some bf) w' := by
  have hn := Lib.indexByte_none hj
  have hl := line_none hn
  have hen := h.hen
  have hlen := h.hlen
  have hbuf := h.hbuf
  have hd : s.data.toList.drop i = [] := List.drop_eq_nil_of_le (by rw [hi]; exact Nat.le_refl _)
  have hr : rest = (bs.drop st).take (en - st) := by rw [h.hrest, hd, List.append_nil]
  rw [← hr] at hl
  have hst : St w' sc sr te tv s (restOf rest) (some bf) L bs (st + (en - st)) en i pr err _ true :=
    h.own hK hB' (by omega) h.hen (by omega) (by rw [hl.2, hd, show en - (st + (en - st)) = 0 by omega]; simp) h.herr
  refine ⟨?_, some bf, L, bs, _, _, i, pr, err, _, hst, ?_, keepSc hK, .inl rfl⟩
  · rw [hr]
    intro e
    have e2 := congrArg List.length e
    simp only [List.length_take, List.length_drop, List.length_nil] at e2
    omega
  · rw [hl.1, hr]
    refine ⟨bf, st, L - st, rfl, ?_⟩
    exact bytes_of_line (Bytes.of_block (hst.hF bf rfl) (en - st)) (dropCRl_prefix _)

/-- The end. -/
theorem no_end {bf : Nat} {tok' : Value} (h : St w sc sr te tv s rest (some bf) L bs st st i pr (.iface te tv) tok true) (hi : i = s.size) {w' : World}
    (hB' : Blk w' sc (scC (rdV sr) tok' (bufV (some bf) L) 0 0 (.iface te tv) true) 67) (hK : Keep (fun k => k = sc) w w') : ScanNo w sc sr te tv s rest (some bf) w' := by
  have hd : s.data.toList.drop i = [] := List.drop_eq_nil_of_le (by rw [hi]; exact Nat.le_refl _)
  refine ⟨by rw [h.hrest, hd]; simp, some bf, L, bs, i, pr, tok', ?_, keepSc hK, .inl rfl⟩
  exact h.own hK hB' (Nat.le_refl _) (Nat.zero_le _) (by omega) (by rw [hd]; simp) h.herr

/-- One round. -/
theorem scan_round {c1 c2 c3 c4 c5 : Code} {ops : Array Oper} {b : Bool} (h1 : findCond 33 (Tryf.f26.body.getD .skip) = some c1) (h2 : findCond 117 (Tryf.f26.body.getD .skip) = some c2) (h3 : findCond 153 (Tryf.f26.body.getD .skip) = some c3)
    (h4 : findCond 195 (Tryf.f26.body.getD .skip) = some c4) (h44 : findRegion 44 (Tryf.f26.body.getD .skip) = some (ops, b)) (h5 : findBlock 2 (Tryf.f26.body.getD .skip) = some c5)
    (hE : E 0 = .pointer (some ⟨sc, 0, none⟩)) (h : St w sc sr te tv s rest ob L bs st en i pr err tok true)
    (hyes : ∀ E' w', E' 2 = .bool true → ScanYes w sc sr te tv s rest ob w' → Q .ret E' w') (hno : ∀ E' w', E' 2 = .bool false → ScanNo w sc sr te tv s rest ob w' → Q .ret E' w')
    (hon : ∀ E' w' ob' L' bs' st' en' i' pr' err' tok', E' 0 = .pointer (some ⟨sc, 0, none⟩) → St w' sc sr te tv s rest ob' L' bs' st' en' i' pr' err' tok' true → err = .nilIface →
      ((i < i' ∧ err' = .nilIface) ∨ (i' = i ∧ err' = .iface te tv)) → Keep (Own sc sr ob) w w' → Fresh w ob ob' → Q .normal E' w') :
    cE Tryf.prog 334 (.seq c1 (.seq c2 (.seq c3 (.seq c4 (.seq (.region 44 ops b) c5))))) Q E w := by
  have hse := h.hse
  have hen := h.hen
  have hL := h.hL
  have hlen := h.hlen
  -- what follows when nothing can be given yet
  have more : err = .nilIface → ∀ E1 w1 tok1, E1 0 = .pointer (some ⟨sc, 0, none⟩) → St w1 sc sr te tv s rest ob L bs st en i pr .nilIface tok1 true → Keep (Own sc sr ob) w w1 →
      cE Tryf.prog 334 (.seq c2 (.seq c3 (.seq c4 (.seq (.region 44 ops b) c5)))) Q E1 w1 := by
    intro he E1 w1 tok1 hE1 hs1 hk1
    refine cE_seq (seg2_nil h2 hE1 hs1.hB fun E2 hE2 => ?_)
    refine cE_seq (st_seg3 h3 hE2 hs1 fun E3 w3 bs3 st3 en3 hE3 hs3 hf3 hk3 => ?_)
    refine cE_seq (st_seg4 h4 hE3 hs3 hf3 fun E4 w4 bf L4 bs4 st4 en4 hE4 hs4 hlt4 hk4 hfr4 => ?_)
    cases h44
    refine cE_list ?_
    refine lE_val (v := (.int .i64 0)) (x_assign (v := (.int .i64 0)) rfl) rfl (by decide) rfl ?_
    refine lE_nil ?_
    have hE5 : upd E4 8 (.int .i64 0) 0 = .pointer (some ⟨sc, 0, none⟩) := by rw [upd_ne _ _ _ _ (by decide)]; exact hE4
    refine st_seg5 h5 hE5 hs4 hlt4 fun E6 w6 bs6 en6 i6 pr6 err6 hE6 hs6 hm hk6 => ?_
    have hk13 : Keep (Own sc sr ob) w w3 := keepOwn_trans hk1 (.inl rfl) hk3
    have hk14 : Keep (Own sc sr ob) w w4 := keepOwn_trans hk13 (.inl rfl) hk4
    have hfr : Fresh w ob (some bf) := Fresh.trans (.inl rfl) hk13.size hfr4
    exact hon E6 w6 (some bf) L4 bs6 st4 en6 i6 pr6 err6 tok1 hE6 hs6 he hm (keepOwn_trans hk14 hfr hk6) hfr
  rcases h.herr with he | ⟨he, hi, hob⟩
  · subst he
    by_cases hd : st = en
    · subst hd
      refine cE_seq (seg1_empty h1 hE h.hB fun E1 w1 hE1 hB1 hK1 => ?_)
      exact more rfl E1 w1 tok hE1 (h.own hK1 hB1 h.hse h.hen h.hbuf h.hrest h.herr) (keepSc hK1)
    · cases ob with
      | none => have := h.hN rfl; omega
      | some bf =>
        have hF := h.hF bf rfl
        have hxs : ((bs.drop st).take (en - st)).length = en - st := by rw [List.length_take, List.length_drop]; omega
        have hx : Bytes w bf st ((bs.drop st).take (en - st)) := Bytes.of_block hF _
        have hge := Lib.indexByte_ge ((bs.drop st).take (en - st)) 10
        by_cases hf : Lib.indexByte ((bs.drop st).take (en - st)) 10 = -1
        · refine cE_seq (seg1_more h1 hE h.hB (by omega) h.hen (by omega) hxs hx hf fun E1 w1 hE1 hB1 hK1 => ?_)
          exact more rfl E1 w1 _ hE1 (h.own hK1 hB1 h.hse h.hen h.hbuf h.hrest h.herr) (keepSc hK1)
        · obtain ⟨j, hj⟩ := Int.eq_ofNat_of_zero_le (a := Lib.indexByte ((bs.drop st).take (en - st)) 10) (by omega)
          have hjn : j < en - st := by
            have h6 := (Lib.indexByte_some hj).1
            rcases Nat.lt_or_ge j (en - st) with h7 | h7
            · exact h7
            · rw [List.getElem?_eq_none (by omega)] at h6; cases h6
          refine cE_seq (seg1_found_nil h1 hE h.hB (by omega) h.hen (by omega) hxs hx hj hjn fun E1 w1 hE1 hB1 hK1 => ?_)
          exact hyes E1 w1 hE1 (yes_found h (by omega) hj hjn hB1 hK1)
  · subst he
    cases ob with
    | none => exact absurd rfl hob
    | some bf =>
      by_cases hd : st = en
      · subst hd
        refine cE_seq (seg1_end h1 hE h.hB h.hen (by omega) fun E1 w1 hE1 hB1 hK1 => ?_)
        refine cE_seq (seg2_eof h2 hE1 hB1 fun E2 w2 hE2 hB2 hK2 => ?_)
        exact hno E2 w2 hE2 (no_end h hi hB2 (hK1.trans hK2))
      · have hF := h.hF bf rfl
        have hxs : ((bs.drop st).take (en - st)).length = en - st := by rw [List.length_take, List.length_drop]; omega
        have hx : Bytes w bf st ((bs.drop st).take (en - st)) := Bytes.of_block hF _
        have hge := Lib.indexByte_ge ((bs.drop st).take (en - st)) 10
        by_cases hf : Lib.indexByte ((bs.drop st).take (en - st)) 10 = -1
        · refine cE_seq (seg1_last h1 hE h.hB (by omega) h.hen (by omega) hxs hx hf fun E1 w1 hE1 hB1 hK1 => ?_)
          exact hyes E1 w1 hE1 (yes_last h (by omega) hf hi hB1 hK1)
        · obtain ⟨j, hj⟩ := Int.eq_ofNat_of_zero_le (a := Lib.indexByte ((bs.drop st).take (en - st)) 10) (by omega)
          have hjn : j < en - st := by
            have h6 := (Lib.indexByte_some hj).1
            rcases Nat.lt_or_ge j (en - st) with h7 | h7
            · exact h7
            · rw [List.getElem?_eq_none (by omega)] at h6; cases h6
          refine cE_seq (seg1_found_eof h1 hE h.hB (by omega) h.hen (by omega) hxs hx hj hjn fun E1 w1 hE1 hB1 hK1 => ?_)
          exact hyes E1 w1 hE1 (yes_found h (by omega) hj hjn hB1 hK1)
end

theorem ScanYes.onto {w w1 w' : World} {sc sr : Nat} {te : TypeId} {tv : Value} {s : ByteArray} {rest : List UInt8} {ob ob1 : Option Nat} (hk : Keep (Own sc sr ob) w w1) (hf : Fresh w ob ob1) (h : ScanYes w1 sc sr te tv s rest ob1 w') : ScanYes w sc sr te tv s rest ob w' := by
  obtain ⟨h0, ob', L, bs, st, en, i, pr, err, tok, h1, h2, h3, h4⟩ := h
  exact ⟨h0, ob', L, bs, st, en, i, pr, err, tok, h1, h2, keepOwn_trans hk hf h3, hf.trans hk.size h4⟩
theorem ScanNo.onto {w w1 w' : World} {sc sr : Nat} {te : TypeId} {tv : Value} {s : ByteArray} {rest : List UInt8} {ob ob1 : Option Nat} (hk : Keep (Own sc sr ob) w w1) (hf : Fresh w ob ob1) (h : ScanNo w1 sc sr te tv s rest ob1 w') : ScanNo w sc sr te tv s rest ob w' := by
  obtain ⟨h0, ob', L, bs, i, pr, tok, h1, h3, h4⟩ := h
  exact ⟨h0, ob', L, bs, i, pr, tok, h1, keepOwn_trans hk hf h3, hf.trans hk.size h4⟩

/-- WHAT Scan DOES. -/
theorem scan_calls {w : World} {sc sr : Nat} {te : TypeId} {tv : Value} {s : ByteArray} {rest : List UInt8} {ob : Option Nat} {L : Nat} {bs : List UInt8} {st en i : Nat} {pr : Int} {err tok : Value} {cl : Bool}
    (h : St w sc sr te tv s rest ob L bs st en i pr err tok cl) :
    Calls Tryf.prog 26 #[.pointer (some ⟨sc, 0, none⟩)] w fun r w' => (r = .returned (.bool true) ∧ ScanYes w sc sr te tv s rest ob w') ∨ (r = .returned (.bool false) ∧ ScanNo w sc sr te tv s rest ob w') := by
  refine calls_E Tryf.func26 rfl Tryf.ntmps26 (by simp) (env1 _) _ (res1 Tryf.results26) ?_
  refine cE_list ?_
  refine lE_val (v := (.bool false)) (x_assign (v := (.bool false)) rfl) rfl (by decide) rfl ?_
  refine lE_nil ?_
  refine cE_seq ?_
  refine cE_list ?_
  refine lE_val (v := (.pointer (some ⟨sc, 0, none⟩))) (x_move (v := (.pointer (some ⟨sc, 0, none⟩))) rfl) rfl (by decide) rfl ?_
  refine lE_val (v := (.pointer (some ⟨sc, 0, none⟩))) (x_nil rfl) rfl (by decide) rfl ?_
  refine lE_val (v := (.pointer (some ⟨sc, 10, none⟩))) (x_fld (i := 10) (by decide) rfl) rfl (by decide) rfl ?_
  refine lE_val (v := (.bool false)) (x_loadB (Tryf.isAgg4 _) rfl h.hB rfl) rfl (by decide) rfl ?_
  refine lE_nil ?_
  refine cE_condF rfl (cE_skipT ?_)
  refine cE_list ?_
  refine lE_val (v := (.pointer (some ⟨sc, 0, none⟩))) (x_move (v := (.pointer (some ⟨sc, 0, none⟩))) rfl) rfl (by decide) rfl ?_
  refine lE_val (v := (.pointer (some ⟨sc, 0, none⟩))) (x_nil rfl) rfl (by decide) rfl ?_
  refine lE_val (v := (.pointer (some ⟨sc, 9, none⟩))) (x_fld (i := 9) (by decide) rfl) rfl (by decide) rfl ?_
  refine lE_skip (x_storeB (v := (.bool true)) (Tryf.sizeOf4 _) rfl rfl rfl h.hB rfl) rfl rfl ?_
  refine lE_nil ?_
  have hB1 : Blk (w.setCell ⟨sc, 9, none⟩ (.bool true)) sc (scC (rdV sr) tok (bufV ob L) st en err true) 67 := h.hB.setCell 9 _
  have hk1 : Keep (fun k => k = sc) w (w.setCell ⟨sc, 9, none⟩ (.bool true)) := (Keep.refl (fun k => k = sc) w).st _ _
  have hs1 : St (w.setCell ⟨sc, 9, none⟩ (.bool true)) sc sr te tv s rest ob L bs st en i pr err tok true := h.own hk1 hB1 h.hse h.hen h.hbuf h.hrest h.herr
  refine cE_block ?_
  refine cE_loop (fun E' w' m => E' 0 = .pointer (some ⟨sc, 0, none⟩) ∧ ∃ ob' L' bs' st' en' i' pr' err' tok', St w' sc sr te tv s rest ob' L' bs' st' en' i' pr' err' tok' true ∧ Keep (Own sc sr ob) w w' ∧ Fresh w ob ob' ∧
    ((err' = .nilIface ∧ m = s.size - i' + 1) ∨ (err' = .iface te tv ∧ m = 0))) (m := match err with | .nilIface => s.size - i + 1 | _ => 0) ?_ ?_
  · refine ⟨rfl, ob, L, bs, st, en, i, pr, err, tok, hs1, keepSc hk1, .inl rfl, ?_⟩
    rcases h.herr with he | ⟨he, _, _⟩
    · subst he; exact .inl ⟨rfl, rfl⟩
    · subst he; exact .inr ⟨rfl, rfl⟩
  · rintro E' w' m ⟨hE', ob', L', bs', st', en', i', pr', err', tok', hs', hk', hf', hm⟩
    refine cE_block ?_
    refine scan_round (err := err') rfl rfl rfl rfl rfl rfl hE' hs' ?_ ?_ ?_
    · intro E2 w2 hE2 hy
      exact ⟨.inr rfl, .inl ⟨congrArg Ending.returned hE2, hy.onto hk' hf'⟩⟩
    · intro E2 w2 hE2 hn
      exact ⟨.inr rfl, .inr ⟨congrArg Ending.returned hE2, hn.onto hk' hf'⟩⟩
    · intro E2 w2 ob2 L2 bs2 st2 en2 i2 pr2 err2 tok2 hE2 hs2 he hmove hk2 hf2
      have hi2 := hs2.hi
      rcases hm with ⟨_, hm⟩ | ⟨he', _⟩
      · rcases hmove with ⟨hlt, hn2⟩ | ⟨_, hn2⟩
        · exact ⟨s.size - i2 + 1, by omega, hE2, ob2, L2, bs2, st2, en2, i2, pr2, err2, tok2, hs2, keepOwn_trans hk' hf' hk2, hf'.trans hk'.size hf2, .inl ⟨hn2, rfl⟩⟩
        · exact ⟨0, by omega, hE2, ob2, L2, bs2, st2, en2, i2, pr2, err2, tok2, hs2, keepOwn_trans hk' hf' hk2, hf'.trans hk'.size hf2, .inr ⟨hn2, rfl⟩⟩
      · rw [he] at he'; cases he'
end Go.Proofs.Qxb6613145aFmt
