/-
  (*lines.Reader).Next, and what it calls beside Scan. (The regions' lines are written by gen/next.py.)
-/
import Derived.Test.Qxb6613145aFmtScanF
namespace Go.Proofs.Qxb6613145aFmt
open Go.RowKit
set_option maxRecDepth 100000

/-- A string of these bytes. -/
def strB (l : List UInt8) : ByteArray := ⟨l.toArray⟩
theorem strOfNums_bytes (xs : List UInt8) : strOfNums (xs.map fun b => ((b.toNat : Nat) : Int)) = strB xs := by
  unfold strB
  apply ByteArray.ext
  apply Array.toList_inj.1
  rw [strOfNums_data, List.map_map]
  show _ = xs
  conv => rhs; rw [← List.map_id xs]
  refine List.map_congr_left fun b _ => ?_
  simp
section
variable {ρ : Operand → Value} {dst : Option Tmp} {ty : TypeId} {pos : String} {after : Array Edge} {g : Option (Nat × Bool)} {w : World}
theorem x_text {x : Operand} {tok : Value} {line : List UInt8} (h : ρ x = tok) (ht : TokIs w tok line) : (execOp ρ ⟨dst, .convert 65 9 x, ty, pos, after, g⟩).run Tryf.prog w = .ok (.value (.string (strB line))) w := by
  obtain ⟨b, off, c, rfl, hb⟩ := ht
  have hr := run_convert_bytes_arg (P := Tryf.prog) w 65 5 Tryf.underlying65 Tryf.underlying5 b off line.length c (line.map fun b => ((b.toNat : Nat) : Int)) (by simp) (fun i hi => by
    rw [hb i hi]
    simp [byteV, hi]) 9 Tryf.underlying9
  rw [strOfNums_bytes] at hr
  simp [execOp, h, hr]
theorem x_eofeq {x y : Operand} {a : Addr} (h : ρ x = .iface 54 (.pointer (some a))) (h' : ρ y = .iface 54 (.pointer (some a))) : (execOp ρ ⟨dst, .binOp .eql 32 x y 32, ty, pos, after, g⟩).run Tryf.prog w = .ok (.value (.bool true)) w := by
  have hr := run_eql_iface_ptr_same (P := Tryf.prog) w (ti := 32) (tp := 54) (te := 56) (i := Tryf.t54) (j := Tryf.t56) a Tryf.underlying32 Tryf.underlying54 (by kernel_rfl) (by kernel_rfl) (by kernel_rfl)
  simp [execOp, h, h', hr, eqGuard]
theorem x_nileq {x y : Operand} {t : TypeId} {v : Value} (h : ρ x = .nilIface) (h' : ρ y = .iface t v) : (execOp ρ ⟨dst, .binOp .eql 32 x y 32, ty, pos, after, g⟩).run Tryf.prog w = .ok (.value (.bool false)) w := by
  have hr := run_eql_iface_nil_left (P := Tryf.prog) w (ti := 32) t v Tryf.underlying32
  simp [execOp, h, h', hr, eqGuard]
end

/-- The lines.Reader's cells. -/
def lrC (sc n : Nat) : Array Value := #[.pointer (some ⟨sc, 0, none⟩), .int .i64 (n : Nat), .nilIface]

def OwnR (lr sc sr : Nat) (ob : Option Nat) (k : Nat) : Prop := k = lr ∨ Own sc sr ob k

/-- A lines.Reader with these bytes left, after n lines. -/
structure Rd (w : World) (lr sc sr : Nat) (ea ta : Addr) (s : ByteArray) (rest : List UInt8) (ob : Option Nat) (n : Nat) : Prop where
  hR : Blk w lr (lrC sc n) 48
  st : ∃ L bs st en i pr err tok cl, St w sc sr 54 (.pointer (some ea)) s rest ob L bs st en i pr err tok cl
  hT : w.cell? ⟨0, 0, none⟩ = some (.iface 54 (.pointer (some ta)))
  lo : 7 ≤ lr

theorem St.drew {w : World} {sc sr : Nat} {te : TypeId} {tv : Value} {s : ByteArray} {rest : List UInt8} {ob : Option Nat} {L : Nat} {bs : List UInt8} {st en i : Nat} {pr : Int} {err tok : Value} {cl : Bool}
    (h : St w sc sr te tv s rest ob L bs st en i pr err tok cl) : St w.drew sc sr te tv s rest ob L bs st en i pr err tok cl :=
  { hB := h.hB, hR := h.hR, hF := h.hF, hN := h.hN, hlen := h.hlen, hse := h.hse, hen := h.hen, hL := h.hL, hpos := h.hpos, hi := h.hi, hbuf := h.hbuf, hrest := h.hrest, herr := h.herr, hG := h.hG, hsz := h.hsz, lo := h.lo }
/-- The state where none of the scanner's blocks has turned. -/
theorem St.kept {w : World} {sc sr : Nat} {te : TypeId} {tv : Value} {s : ByteArray} {rest : List UInt8} {ob : Option Nat} {L : Nat} {bs : List UInt8} {st en i : Nat} {pr : Int} {err tok : Value} {cl : Bool}
    (h : St w sc sr te tv s rest ob L bs st en i pr err tok cl) {S : Nat → Prop} {w' : World} (hk : Keep S w w') (hs : ∀ k, Own sc sr ob k → ¬ S k) (h4 : ¬ S 4) : St w' sc sr te tv s rest ob L bs st en i pr err tok cl :=
  { hB := hk.blk h.hB (hs _ (.inl rfl)), hR := hk.blk h.hR (hs _ (.inr (.inl rfl))), hF := fun bf hbf => hk.blk (h.hF bf hbf) (hs _ (.inr (.inr hbf))), hN := h.hN, hlen := h.hlen, hse := h.hse, hen := h.hen, hL := h.hL, hpos := h.hpos, hi := h.hi, hbuf := h.hbuf,
    hrest := h.hrest, herr := h.herr, hG := hk.cell h.hG h4, hsz := h.hsz, lo := h.lo }
/-- The block of the lines.Reader is none of the scanner's. -/
theorem St.ne_lr {w : World} {lr sc sr n : Nat} {te : TypeId} {tv : Value} {s : ByteArray} {rest : List UInt8} {ob : Option Nat} {L : Nat} {bs : List UInt8} {st en i : Nat} {pr : Int} {err tok : Value} {cl : Bool}
    (h : St w sc sr te tv s rest ob L bs st en i pr err tok cl) (hR : Blk w lr (lrC sc n) 48) : ∀ k, Own sc sr ob k → ¬ (k = lr) := by
  rintro k (e | e | e) e'
  · subst e; exact (h.hB.ne hR (by decide)) e'
  · subst e; exact (h.hR.ne hR (by decide)) e'
  · exact ((h.hF k e).ne hR (by decide)) e'
theorem St.other {w : World} {lr sc sr n : Nat} {te : TypeId} {tv : Value} {s : ByteArray} {rest : List UInt8} {ob : Option Nat} {L : Nat} {bs : List UInt8} {st en i : Nat} {pr : Int} {err tok : Value} {cl : Bool}
    (h : St w sc sr te tv s rest ob L bs st en i pr err tok cl) {w' : World} (hk : Keep (fun k => k = lr) w w') (hR : Blk w lr (lrC sc n) 48) (hlo : 7 ≤ lr) : St w' sc sr te tv s rest ob L bs st en i pr err tok cl :=
  h.kept hk (h.ne_lr hR) (by omega)
theorem TokIs.other {w : World} {lr sc n : Nat} {line : List UInt8} {tok : Value}
    (ht : TokIs w tok line) {w' : World} (hk : Keep (fun k => k = lr) w w') (hR : Blk w lr (lrC sc n) 48) : TokIs w' tok line := by
  obtain ⟨b, off, c, e, hb⟩ := ht
  refine ⟨b, off, c, e, fun j hj => ?_⟩
  refine hk.cell (hb j hj) ?_
  intro e2
  have e3 : b = lr := e2
  have h1 := hb j hj
  subst e3
  rw [hR.cell] at h1
  rcases hoj : off + j with _ | _ | _ | k
  all_goals (rw [hoj] at h1; simp [lrC, byteV] at h1)
theorem Rd.notOwn {w : World} {lr sc sr : Nat} {ea ta : Addr} {s : ByteArray} {rest : List UInt8} {ob : Option Nat} {n : Nat} (h : Rd w lr sc sr ea ta s rest ob n) : ¬ Own sc sr ob lr := by
  obtain ⟨L, bs, st, en, i, pr, err, tok, cl, hst⟩ := h.st
  exact fun ho => hst.ne_lr h.hR lr ho rfl
theorem Rd.low {w : World} {lr sc sr : Nat} {ea ta : Addr} {s : ByteArray} {rest : List UInt8} {ob : Option Nat} {n : Nat} (h : Rd w lr sc sr ea ta s rest ob n) (k : Nat) (hk : k < 7) : ¬ Own sc sr ob k := by
  obtain ⟨L, bs, st, en, i, pr, err, tok, cl, hst⟩ := h.st
  exact hst.notOwn4 k hk
theorem Rd.lowR {w : World} {lr sc sr : Nat} {ea ta : Addr} {s : ByteArray} {rest : List UInt8} {ob : Option Nat} {n : Nat} (h : Rd w lr sc sr ea ta s rest ob n) (k : Nat) (hk : k < 7) : ¬ OwnR lr sc sr ob k := by
  rintro (e | e)
  · have := h.lo; omega
  · exact h.low k hk e
theorem Rd.next {w w1 w2 : World} {lr sc sr : Nat} {ea ta : Addr} {s : ByteArray} {rest rest' : List UInt8} {ob ob' : Option Nat} {n m : Nat} (h : Rd w lr sc sr ea ta s rest ob n) (hR : Blk w2.drew lr (lrC sc m) 48)
    {L : Nat} {bs : List UInt8} {st en i : Nat} {pr : Int} {err tok : Value} {cl : Bool} (hs : St w2.drew sc sr 54 (.pointer (some ea)) s rest' ob' L bs st en i pr err tok cl) (hk : Keep (OwnR lr sc sr ob) w w1) (hk2 : Keep (OwnR lr sc sr ob) w1 w2) : Rd w2.drew lr sc sr ea ta s rest' ob' m :=
  { hR := hR, st := ⟨L, bs, st, en, i, pr, err, tok, cl, hs⟩, hT := (Keep.trans hk hk2).drew.cell h.hT (h.lowR 0 (by omega)), lo := h.lo }
theorem Rd.stay {w w1 : World} {lr sc sr : Nat} {ea ta : Addr} {s : ByteArray} {rest rest' : List UInt8} {ob ob' : Option Nat} {n m : Nat} (h : Rd w lr sc sr ea ta s rest ob n) (hR : Blk w1 lr (lrC sc m) 48)
    {L : Nat} {bs : List UInt8} {st en i : Nat} {pr : Int} {err tok : Value} {cl : Bool} (hs : St w1 sc sr 54 (.pointer (some ea)) s rest' ob' L bs st en i pr err tok cl) (hk : Keep (OwnR lr sc sr ob) w w1) : Rd w1 lr sc sr ea ta s rest' ob' m :=
  { hR := hR, st := ⟨L, bs, st, en, i, pr, err, tok, cl, hs⟩, hT := hk.cell h.hT (h.lowR 0 (by omega)), lo := h.lo }

theorem text_calls {w : World} {sc sr : Nat} {ob : Option Nat} {L st en : Nat} {err tok : Value} {cl : Bool} {line : List UInt8} (hB : Blk w sc (scC (rdV sr) tok (bufV ob L) st en err cl) 67) (htok : TokIs w tok line) :
    Calls Tryf.prog 31 #[(.pointer (some ⟨sc, 0, none⟩))] w fun r w' => r = .returned (.string (strB line)) ∧ w' = w := by
  refine calls_E Tryf.func31 rfl Tryf.ntmps31 (by simp) (env1 _) _ (res1 Tryf.results31) ?_
  refine cE_list ?_
  refine lE_val (v := (.string ⟨#[]⟩)) (x_assign (v := (.string ⟨#[]⟩)) rfl) rfl (by decide) rfl ?_
  refine lE_nil ?_
  refine cE_list ?_
  refine lE_val (v := (.pointer (some ⟨sc, 0, none⟩))) (x_move (v := (.pointer (some ⟨sc, 0, none⟩))) rfl) rfl (by decide) rfl ?_
  refine lE_val (v := (.pointer (some ⟨sc, 0, none⟩))) (x_nil rfl) rfl (by decide) rfl ?_
  refine lE_val (v := (.pointer (some ⟨sc, 3, none⟩))) (x_fld (i := 3) (by decide) rfl) rfl (by decide) rfl ?_
  refine lE_val (v := tok) (x_loadB (Tryf.isAgg65 _) rfl hB rfl) rfl (by decide) rfl ?_
  refine lE_val (v := (.string (strB line))) (x_text rfl htok) rfl (by decide) rfl ?_
  refine lE_val (v := (.string (strB line))) (x_assign (v := (.string (strB line))) rfl) rfl (by decide) rfl ?_
  refine lE_nil ?_
  exact cE_retE ⟨rfl, rfl⟩

theorem scErr_calls {w : World} {sc sr : Nat} {ob : Option Nat} {L st en : Nat} {tok : Value} {cl : Bool} {ea : Addr} (hB : Blk w.drew sc (scC (rdV sr) tok (bufV ob L) st en (.iface 54 (.pointer (some ea))) cl) 67) (hG : w.drew.cell? ⟨4, 0, none⟩ = some (.iface 54 (.pointer (some ea)))) :
    Calls Tryf.prog 27 #[(.pointer (some ⟨sc, 0, none⟩))] w fun r w' => r = .returned .nilIface ∧ w' = w.drew := by
  refine calls_E Tryf.func27 rfl Tryf.ntmps27 (by simp) (env1 _) _ (res1 Tryf.results27) ?_
  refine cE_list ?_
  refine lE_val (v := .nilIface) (x_assign (v := .nilIface) rfl) rfl (by decide) rfl ?_
  refine lE_nil ?_
  refine cE_seq ?_
  refine cE_still (by kernel_rfl) (by kernel_rfl) ?_
  refine sE_val (v := (.pointer (some ⟨sc, 0, none⟩))) (x_move (v := (.pointer (some ⟨sc, 0, none⟩))) rfl) rfl (by decide) rfl ?_
  refine sE_val (v := (.pointer (some ⟨sc, 0, none⟩))) (x_nil rfl) rfl (by decide) rfl ?_
  refine sE_val (v := (.pointer (some ⟨sc, 7, none⟩))) (x_fld (i := 7) (by decide) rfl) rfl (by decide) rfl ?_
  refine sE_val (v := (.iface 54 (.pointer (some ea)))) (x_loadB (Tryf.isAgg32 _) rfl hB rfl) rfl (by decide) rfl ?_
  refine sE_val (v := (.iface 54 (.pointer (some ea)))) (x_load (Tryf.isAgg32 _) rfl hG) rfl (by decide) rfl ?_
  refine sE_val (v := (.bool true)) (x_eofeq rfl rfl) rfl (by decide) rfl ?_
  refine sE_nil ?_
  refine cE_condT rfl ?_
  refine cE_list ?_
  refine lE_val (v := .nilIface) (x_assign (v := .nilIface) rfl) rfl (by decide) rfl ?_
  refine lE_nil ?_
  exact cE_retE1 ⟨rfl, rfl⟩

theorem isNil_calls {w : World} {ta : Addr} : Calls Tryf.prog 28 #[.nilIface, (.iface 54 (.pointer (some ta)))] w fun r w' => r = .returned (.bool false) ∧ w' = w := by
  refine calls_E Tryf.func28 rfl Tryf.ntmps28 (by simp) (env2 _ _) _ (res1 Tryf.results28) ?_
  refine cE_list ?_
  refine lE_val (v := (.bool false)) (x_assign (v := (.bool false)) rfl) rfl (by decide) rfl ?_
  refine lE_nil ?_
  refine cE_seq ?_
  refine cE_list ?_
  refine lE_val (v := .nilIface) (x_move (v := .nilIface) rfl) rfl (by decide) rfl ?_
  refine lE_val (v := (.bool true)) (x_eqnil rfl rfl) rfl (by decide) rfl ?_
  refine lE_val (v := (.bool true)) (x_move (v := (.bool true)) rfl) rfl (by decide) rfl ?_
  refine lE_gskip rfl (by decide) rfl rfl (by decide) (.inl rfl) ?_
  refine lE_gskip rfl (by decide) rfl rfl (by decide) (.inl rfl) ?_
  refine lE_val (v := (.bool true)) (x_pickT (v := (.bool true)) rfl rfl) rfl (by decide) rfl ?_
  refine lE_nil ?_
  refine cE_condT rfl ?_
  refine cE_list ?_
  refine lE_val (v := .nilIface) (x_move (v := .nilIface) rfl) rfl (by decide) rfl ?_
  refine lE_val (v := (.iface 54 (.pointer (some ta)))) (x_move (v := (.iface 54 (.pointer (some ta)))) rfl) rfl (by decide) rfl ?_
  refine lE_val (v := (.bool false)) (x_nileq rfl rfl) rfl (by decide) rfl ?_
  refine lE_val (v := (.bool false)) (x_assign (v := (.bool false)) rfl) rfl (by decide) rfl ?_
  refine lE_nil ?_
  exact cE_retE1 ⟨rfl, rfl⟩

theorem rdErr_calls {w : World} {lr sc n : Nat} (hR : Blk w lr (lrC sc n) 48) : Calls Tryf.prog 21 #[(.pointer (some ⟨lr, 0, none⟩))] w fun r w' => r = .returned .nilIface ∧ w' = w := by
  refine calls_E Tryf.func21 rfl Tryf.ntmps21 (by simp) (env1 _) _ (res1 Tryf.results21) ?_
  refine cE_list ?_
  refine lE_val (v := .nilIface) (x_assign (v := .nilIface) rfl) rfl (by decide) rfl ?_
  refine lE_nil ?_
  refine cE_list ?_
  refine lE_val (v := (.pointer (some ⟨lr, 0, none⟩))) (x_move (v := (.pointer (some ⟨lr, 0, none⟩))) rfl) rfl (by decide) rfl ?_
  refine lE_val (v := (.pointer (some ⟨lr, 0, none⟩))) (x_nil rfl) rfl (by decide) rfl ?_
  refine lE_val (v := (.pointer (some ⟨lr, 2, none⟩))) (x_fld48 (i := 2) (by decide) rfl) rfl (by decide) rfl ?_
  refine lE_val (v := .nilIface) (x_loadB (Tryf.isAgg32 _) rfl hR rfl) rfl (by decide) rfl ?_
  refine lE_val (v := .nilIface) (x_assign (v := .nilIface) rfl) rfl (by decide) rfl ?_
  refine lE_nil ?_
  exact cE_retE ⟨rfl, rfl⟩

/-- WHAT Next DOES. -/
theorem next_calls {w : World} {lr sc sr : Nat} {ea ta : Addr} {s : ByteArray} {rest : List UInt8} {ob : Option Nat} {n : Nat} (h : Rd w lr sc sr ea ta s rest ob n) (hn : n ≤ 1000000) :
    Calls Tryf.prog 20 #[(.pointer (some ⟨lr, 0, none⟩))] w fun r w' =>
      (rest ≠ [] ∧ r = .returned (.tuple #[.int .i64 (n + 1 : Nat), .string (strB (dropCRl (lineOf rest))), .bool true]) ∧ ∃ ob', Rd w' lr sc sr ea ta s (restOf rest) ob' (n + 1) ∧ Keep (OwnR lr sc sr ob) w w' ∧ Fresh w ob ob') ∨
      (rest = [] ∧ r = .returned (.tuple #[.int .i64 0, .string ⟨#[]⟩, .bool false]) ∧ ∃ ob', Rd w' lr sc sr ea ta s [] ob' n ∧ Keep (OwnR lr sc sr ob) w w' ∧ Fresh w ob ob') := by
  refine calls_E Tryf.func20 rfl Tryf.ntmps20 (by simp) (env1 _) _ (res3 Tryf.results20) ?_
  obtain ⟨L, bs, st, en, i, pr, err, tok, cl, hst⟩ := h.st
  refine cE_list ?_
  refine lE_val (v := (.int .i64 0)) (x_assign (v := (.int .i64 0)) rfl) rfl (by decide) rfl ?_
  refine lE_val (v := (.string ⟨#[]⟩)) (x_assign (v := (.string ⟨#[]⟩)) rfl) rfl (by decide) rfl ?_
  refine lE_val (v := (.bool false)) (x_assign (v := (.bool false)) rfl) rfl (by decide) rfl ?_
  refine lE_nil ?_
  refine cE_seq ?_
  refine cE_list ?_
  refine lE_val (v := (.pointer (some ⟨lr, 0, none⟩))) (x_move (v := (.pointer (some ⟨lr, 0, none⟩))) rfl) rfl (by decide) rfl ?_
  refine lE_val (v := (.pointer (some ⟨lr, 0, none⟩))) (x_nil rfl) rfl (by decide) rfl ?_
  refine lE_val (v := (.pointer (some ⟨lr, 0, none⟩))) (x_fld48 (i := 0) (by decide) rfl) rfl (by decide) rfl ?_
  refine lE_val (v := (.pointer (some ⟨sc, 0, none⟩))) (x_loadB (Tryf.isAgg46 _) rfl h.hR rfl) rfl (by decide) rfl ?_
  refine lE_call (x_call1 Tryf.func26 (by kernel_rfl) (by kernel_rfl) rfl rfl) rfl (by decide) rfl ?_
  refine (scan_calls hst).mono ?_
  rintro r w1 (⟨hr, hy⟩ | ⟨hr, hn⟩)
  · rw [hr]; refine ⟨_, rfl, ?_⟩
    obtain ⟨hne, ob1, L1, bs1, st1, en1, i1, pr1, err1, tok1, hs1, htok, hk1, hf1⟩ := hy
    have hR1 : Blk w1 lr (lrC sc n) 48 := hk1.blk h.hR h.notOwn
    refine lE_val (v := (.bool false)) (x_not (b := true) rfl) rfl (by decide) rfl ?_
    refine lE_nil ?_
    refine cE_condF rfl (cE_skipT ?_)
    refine cE_list ?_
    refine lE_val (v := (.pointer (some ⟨lr, 0, none⟩))) (x_move (v := (.pointer (some ⟨lr, 0, none⟩))) rfl) rfl (by decide) rfl ?_
    refine lE_val (v := (.pointer (some ⟨lr, 0, none⟩))) (x_nil rfl) rfl (by decide) rfl ?_
    refine lE_val (v := (.pointer (some ⟨lr, 1, none⟩))) (x_fld48 (i := 1) (by decide) rfl) rfl (by decide) rfl ?_
    refine lE_val (v := (.int .i64 (n : Nat))) (x_loadB (Tryf.isAgg3 _) rfl hR1 rfl) rfl (by decide) rfl ?_
    refine lE_val (v := (.int .i64 (n + 1 : Nat))) (x_add (r := ((n + 1 : Nat) : Int)) rfl rfl (by omega) (by omega) (by omega)) rfl (by decide) rfl ?_
    refine lE_val (v := (.pointer (some ⟨lr, 0, none⟩))) (x_nil rfl) rfl (by decide) rfl ?_
    refine lE_val (v := (.pointer (some ⟨lr, 1, none⟩))) (x_fld48 (i := 1) (by decide) rfl) rfl (by decide) rfl ?_
    refine lE_skip (x_storeB (v := (.int .i64 (n + 1 : Nat))) (Tryf.sizeOf3 _) rfl rfl rfl hR1 rfl) rfl rfl ?_
    refine lE_nil ?_
    have hR2 : Blk (w1.setCell ⟨lr, 1, none⟩ (.int .i64 (n + 1 : Nat))).drew lr (lrC sc (n + 1)) 48 := hR1.setCell 1 _
    have hk2 : Keep (fun k => k = lr) w1 (w1.setCell ⟨lr, 1, none⟩ (.int .i64 (n + 1 : Nat))) := (Keep.refl (fun k => k = lr) w1).st _ _
    have hs2 : St (w1.setCell ⟨lr, 1, none⟩ (.int .i64 (n + 1 : Nat))) sc sr 54 (.pointer (some ea)) s (restOf rest) ob1 L1 bs1 st1 en1 i1 pr1 err1 tok1 true := hs1.other hk2 hR1 h.lo
    have htok2 : TokIs (w1.setCell ⟨lr, 1, none⟩ (.int .i64 (n + 1 : Nat))) tok1 (dropCRl (lineOf rest)) := htok.other hk2 hR1
    have hB2 : Blk (w1.setCell ⟨lr, 1, none⟩ (.int .i64 (n + 1 : Nat))).drew sc (scC (rdV sr) tok1 (bufV ob1 L1) st1 en1 err1 true) 67 := hs2.hB
    have htok3 : TokIs (w1.setCell ⟨lr, 1, none⟩ (.int .i64 (n + 1 : Nat))).drew tok1 (dropCRl (lineOf rest)) := htok2
    refine cE_still (by kernel_rfl) (by kernel_rfl) ?_
    refine sE_val (v := (.pointer (some ⟨lr, 0, none⟩))) (x_move (v := (.pointer (some ⟨lr, 0, none⟩))) rfl) rfl (by decide) rfl ?_
    refine sE_val (v := (.pointer (some ⟨lr, 0, none⟩))) (x_nil rfl) rfl (by decide) rfl ?_
    refine sE_val (v := (.pointer (some ⟨lr, 1, none⟩))) (x_fld48 (i := 1) (by decide) rfl) rfl (by decide) rfl ?_
    refine sE_val (v := (.int .i64 (n + 1 : Nat))) (x_loadB (Tryf.isAgg3 _) rfl hR2 rfl) rfl (by decide) rfl ?_
    refine sE_val (v := (.pointer (some ⟨lr, 0, none⟩))) (x_move (v := (.pointer (some ⟨lr, 0, none⟩))) rfl) rfl (by decide) rfl ?_
    refine sE_val (v := (.pointer (some ⟨lr, 0, none⟩))) (x_nil rfl) rfl (by decide) rfl ?_
    refine sE_val (v := (.pointer (some ⟨lr, 0, none⟩))) (x_fld48 (i := 0) (by decide) rfl) rfl (by decide) rfl ?_
    refine sE_val (v := (.pointer (some ⟨sc, 0, none⟩))) (x_loadB (Tryf.isAgg46 _) rfl hR2 rfl) rfl (by decide) rfl ?_
    refine sE_call (v := (.string (strB (dropCRl (lineOf rest))))) (x_call1 Tryf.func31 (by kernel_rfl) (by kernel_rfl) rfl rfl) rfl (by decide) rfl (text_calls hB2 htok3) ?_
    refine sE_val (v := (.int .i64 (n + 1 : Nat))) (x_assign (v := (.int .i64 (n + 1 : Nat))) rfl) rfl (by decide) rfl ?_
    refine sE_val (v := (.string (strB (dropCRl (lineOf rest))))) (x_assign (v := (.string (strB (dropCRl (lineOf rest))))) rfl) rfl (by decide) rfl ?_
    refine sE_val (v := (.bool true)) (x_assign (v := (.bool true)) rfl) rfl (by decide) rfl ?_
    refine sE_nil ?_
    refine cE_retE (.inl ⟨hne, rfl, ob1, ?_, ?_, hf1⟩)
    · exact h.next hR2 hs2.drew (hk1.mono fun k _ hk => .inr hk) (hk2.mono fun k _ hk => .inl hk)
    · exact (Keep.trans (hk1.mono fun k _ hk => .inr hk) (hk2.mono fun k _ hk => .inl hk)).drew
  · rw [hr]; refine ⟨_, rfl, ?_⟩
    obtain ⟨hnil, ob1, L1, bs1, i1, pr1, tok1, hs1, hk1, hf1⟩ := hn
    have hR1 : Blk w1 lr (lrC sc n) 48 := hk1.blk h.hR h.notOwn
    have hB1 : Blk w1.drew sc (scC (rdV sr) tok1 (bufV ob1 L1) 0 0 (.iface 54 (.pointer (some ea))) true) 67 := hs1.hB
    have hG1 : w1.drew.cell? ⟨4, 0, none⟩ = some (.iface 54 (.pointer (some ea))) := hs1.hG
    have hT1 : w1.drew.cell? ⟨0, 0, none⟩ = some (.iface 54 (.pointer (some ta))) := hk1.cell h.hT (h.low 0 (by omega))
    refine lE_val (v := (.bool true)) (x_not (b := false) rfl) rfl (by decide) rfl ?_
    refine lE_nil ?_
    refine cE_condT rfl ?_
    refine cE_seq ?_
    refine cE_list ?_
    refine lE_val (v := (.pointer (some ⟨lr, 0, none⟩))) (x_move (v := (.pointer (some ⟨lr, 0, none⟩))) rfl) rfl (by decide) rfl ?_
    refine lE_val (v := (.pointer (some ⟨lr, 0, none⟩))) (x_nil rfl) rfl (by decide) rfl ?_
    refine lE_val (v := (.pointer (some ⟨lr, 0, none⟩))) (x_fld48 (i := 0) (by decide) rfl) rfl (by decide) rfl ?_
    refine lE_val (v := (.pointer (some ⟨sc, 0, none⟩))) (x_loadB (Tryf.isAgg46 _) rfl hR1 rfl) rfl (by decide) rfl ?_
    refine lE_call (x_call1 Tryf.func27 (by kernel_rfl) (by kernel_rfl) rfl rfl) rfl (by decide) rfl ?_
    refine Calls.mono (scErr_calls hB1 hG1) ?_
    intro rr ww hrr; obtain ⟨hr1, hr2⟩ := hrr; rw [hr1, hr2]; refine ⟨_, rfl, ?_⟩
    refine lE_val (v := .nilIface) (x_assign (v := .nilIface) rfl) rfl (by decide) rfl ?_
    refine lE_nil ?_
    refine cE_list ?_
    refine lE_val (v := .nilIface) (x_move (v := .nilIface) rfl) rfl (by decide) rfl ?_
    refine lE_val (v := (.iface 54 (.pointer (some ta)))) (x_load (Tryf.isAgg32 _) rfl hT1) rfl (by decide) rfl ?_
    refine lE_call (x_call2 Tryf.func28 (by kernel_rfl) (by kernel_rfl) rfl rfl rfl) rfl (by decide) rfl ?_
    refine Calls.mono isNil_calls ?_
    intro rr ww hrr; obtain ⟨hr1, hr2⟩ := hrr; rw [hr1, hr2]; refine ⟨_, rfl, ?_⟩
    refine lE_nil ?_
    refine cE_condF rfl ?_
    refine cE_list ?_
    refine lE_val (v := .nilIface) (x_move (v := .nilIface) rfl) rfl (by decide) rfl ?_
    refine lE_val (v := (.bool false)) (x_neqnil rfl rfl) rfl (by decide) rfl ?_
    refine lE_nil ?_
    refine cE_condF rfl (cE_skipT ?_)
    refine cE_list ?_
    refine lE_val (v := (.int .i64 0)) (x_assign (v := (.int .i64 0)) rfl) rfl (by decide) rfl ?_
    refine lE_val (v := (.string ⟨#[]⟩)) (x_assign (v := (.string ⟨#[]⟩)) rfl) rfl (by decide) rfl ?_
    refine lE_val (v := (.bool false)) (x_assign (v := (.bool false)) rfl) rfl (by decide) rfl ?_
    refine lE_nil ?_
    refine cE_retE1 (.inr ⟨hnil, rfl, ob1, ?_, ?_, hf1⟩)
    · exact h.stay (w1 := w1.drew) hR1 hs1.drew (hk1.mono fun k _ hk => .inr hk).drew
    · exact (hk1.mono fun k _ hk => .inr hk).drew

end Go.Proofs.Qxb6613145aFmt
