/-
  lines.Each. (The regions' lines are written by gen/each.py.)
-/
import Derived.Test.Qxb6613145aFmtGot
namespace Go.Proofs.Qxb6613145aFmt
open Go.RowKit
set_option maxRecDepth 100000

theorem x_callv2c {ρ : Operand → Value} {dst : Option Tmp} {ty : TypeId} {pos : String} {after : Array Edge} {g : Option (Nat × Bool)} {w : World} {f : FuncId} {fn : Func} {z x y : Operand} {ats : Array TypeId} {c0 c1 c2 c3 v0 v1 : Value}
    (hf : Tryf.prog.funcs[f]? = some fn) (hb : fn.body.isNone = false) (hn : (fn.name == "runtime.NumGoroutine") = false) (hρ : ρ z = .func (.func f) #[] #[c0, c1, c2, c3]) (h0 : ρ x = v0) (h1 : ρ y = v1) :
    (execOp ρ ⟨dst, .call { callee := .value z, args := #[x, y], argTypes := ats }, ty, pos, after, g⟩).run Tryf.prog w = .ok (.enter f #[v0, v1, c0, c1, c2, c3]) w := by
  simp [execOp, resolve, hρ, h0, h1, Deferred.ofValue, invoke, run_call_go hf hb hn]

theorem splitL_length : ∀ (l cur : List UInt8), (splitL l cur).length ≤ l.length + (if cur = [] then 0 else 1)
  | [], cur => by unfold splitL; split <;> simp
  | b :: l, cur => by
    unfold splitL
    split
    · have := splitL_length l []
      simp at this ⊢
      omega
    · have := splitL_length l (cur ++ [b])
      simp at this ⊢
      omega
theorem linesOf_length (l : List UInt8) : (linesOf l).length ≤ l.length := by
  have := splitL_length l []
  unfold linesOf
  simpa using this
theorem take_line (xs : List (List UInt8)) (line : List UInt8) (ys : List (List UInt8)) : (xs ++ line :: ys).take (xs.length + 1) = xs ++ [line] := by
  rw [show xs ++ line :: ys = (xs ++ [line]) ++ ys by simp]
  exact List.take_left' (by simp)

/-- What a callback does, whichever of the two it is. -/
def Callback (f : FuncId) (B0 g1 g2 g3 g4 base sb : Nat) (stx : ByteArray) (kk : Int) : Prop :=
  ∀ {w : World} {xs : List (List UInt8)}, Got w B0 g1 g2 g3 g4 base sb stx kk xs → ∀ (line : List UInt8), xs.length ≤ 1000000 →
    Calls Tryf.prog f #[.int .i64 (xs.length + 1 : Nat), .string (strB line), .pointer (some ⟨g1, 0, none⟩), .pointer (some ⟨g2, 0, none⟩), .pointer (some ⟨g3, 0, none⟩), .pointer (some ⟨g4, 0, none⟩)] w fun r w' =>
      Got w' B0 g1 g2 g3 g4 base sb stx kk (xs ++ [line]) ∧ Keep (GotT w B0) w w' ∧
      ((kk = (xs.length + 1 : Nat) ∧ r = .returned (.iface 54 (.pointer (some ⟨sb, 0, none⟩)))) ∨ (kk ≠ (xs.length + 1 : Nat) ∧ r = .returned .nilIface))

/-- How Each ends. -/
def EachEnd (lines : List (List UInt8)) (kk : Int) (xs : List (List UInt8)) (r : Ending) : Prop :=
  (∃ k : Nat, 1 ≤ k ∧ k ≤ lines.length ∧ kk = k ∧ xs = lines.take k ∧ ∃ t v, r = .returned (.iface t v)) ∨ ((∀ k : Nat, 1 ≤ k → k ≤ lines.length → kk ≠ k) ∧ xs = lines ∧ r = .returned .nilIface)

/-- What holds at the loop's head. -/
def EachInv (f : FuncId) (B0 g1 g2 g3 g4 base sb : Nat) (stx : ByteArray) (kk : Int) (lr sc sr : Nat) (ea ta : Addr) (s : ByteArray) (w0 : World) (E : Env) (w : World) (m : Nat) : Prop :=
  ∃ xs rest ob, E 1 = .func (.func f) #[] #[.pointer (some ⟨g1, 0, none⟩), .pointer (some ⟨g2, 0, none⟩), .pointer (some ⟨g3, 0, none⟩), .pointer (some ⟨g4, 0, none⟩)] ∧ E 5 = .pointer (some ⟨lr, 0, none⟩) ∧
    ((∃ line, E 6 = .int .i64 (xs.length + 1 : Nat) ∧ E 7 = .string (strB line) ∧ E 8 = .bool true ∧ linesOf s.data.toList = xs ++ line :: linesOf rest ∧ Rd w lr sc sr ea ta s rest ob (xs.length + 1) ∧ m = rest.length + 1) ∨
     (E 8 = .bool false ∧ linesOf s.data.toList = xs ∧ Rd w lr sc sr ea ta s [] ob xs.length ∧ m = 0)) ∧
    Got w B0 g1 g2 g3 g4 base sb stx kk xs ∧ (∀ k : Nat, 1 ≤ k → k ≤ xs.length → kk ≠ k) ∧ Keep (fun k => B0 ≤ k) w0 w ∧ (∀ k, OwnR lr sc sr ob k → B0 ≤ k)

theorem ownR_fresh {w : World} {lr sc sr B0 : Nat} {ob ob' : Option Nat} (h : ∀ k, OwnR lr sc sr ob k → B0 ≤ k) (hf : Fresh w ob ob') (hB : B0 ≤ w.heap.size) : ∀ k, OwnR lr sc sr ob' k → B0 ≤ k := by
  rintro k (e | e | e | e)
  · exact h k (.inl e)
  · exact h k (.inr (.inl e))
  · exact h k (.inr (.inr (.inl e)))
  · rcases hf with hf | ⟨b, hb, hlt⟩
    · rw [hf] at e; exact h k (.inr (.inr (.inr e)))
    · rw [hb] at e; cases e; omega

section
variable {f : FuncId} {fn : Func} {B0 g1 g2 g3 g4 base sb : Nat} {stx : ByteArray} {kk : Int} {lr sc sr : Nat} {ea ta : Addr} {s : ByteArray} {w0 : World}

/-- Behind a Next, whether it gave a line or not. -/
theorem inv_yes {E : Env} {w w2 : World} {xs : List (List UInt8)} {rest : List UInt8} {ob ob2 : Option Nat} {n : Nat} (hn : xs.length = n) (h1 : E 1 = .func (.func f) #[] #[.pointer (some ⟨g1, 0, none⟩), .pointer (some ⟨g2, 0, none⟩), .pointer (some ⟨g3, 0, none⟩), .pointer (some ⟨g4, 0, none⟩)])
    (h5 : E 5 = .pointer (some ⟨lr, 0, none⟩)) (h6 : E 6 = .int .i64 (n + 1 : Nat)) (h7 : E 7 = .string (strB (dropCRl (lineOf rest)))) (h8 : E 8 = .bool true) (hne : rest ≠ []) (hl : linesOf s.data.toList = xs ++ linesOf rest) (hrd : Rd w lr sc sr ea ta s rest ob n)
    (hrd2 : Rd w2 lr sc sr ea ta s (restOf rest) ob2 (n + 1)) (hk2 : Keep (OwnR lr sc sr ob) w w2) (hf2 : Fresh w ob ob2) (hg : Got w B0 g1 g2 g3 g4 base sb stx kk xs) (hkk : ∀ k : Nat, 1 ≤ k → k ≤ xs.length → kk ≠ k) (hk : Keep (fun k => B0 ≤ k) w0 w)
    (hB : B0 ≤ w0.heap.size) (hown : ∀ k, OwnR lr sc sr ob k → B0 ≤ k) : EachInv f B0 g1 g2 g3 g4 base sb stx kk lr sc sr ea ta s w0 E w2 ((restOf rest).length + 1) := by
  subst hn
  refine ⟨xs, restOf rest, ob2, h1, h5, .inl ⟨_, h6, h7, h8, ?_, hrd2, rfl⟩, hg.kept hk2 (fun k => hrd.types), hkk, hk.trans' hk2 (fun k _ => hown k), ownR_fresh hown hf2 (Nat.le_trans hB hk.size)⟩
  rw [hl, linesOf_cons hne]
theorem inv_no {E : Env} {w w2 : World} {xs : List (List UInt8)} {rest : List UInt8} {ob ob2 : Option Nat} {n : Nat} (hn : xs.length = n) (h1 : E 1 = .func (.func f) #[] #[.pointer (some ⟨g1, 0, none⟩), .pointer (some ⟨g2, 0, none⟩), .pointer (some ⟨g3, 0, none⟩), .pointer (some ⟨g4, 0, none⟩)])
    (h5 : E 5 = .pointer (some ⟨lr, 0, none⟩)) (h8 : E 8 = .bool false) (hnil : rest = []) (hl : linesOf s.data.toList = xs ++ linesOf rest) (hrd : Rd w lr sc sr ea ta s rest ob n)
    (hrd2 : Rd w2 lr sc sr ea ta s [] ob2 n) (hk2 : Keep (OwnR lr sc sr ob) w w2) (hf2 : Fresh w ob ob2) (hg : Got w B0 g1 g2 g3 g4 base sb stx kk xs) (hkk : ∀ k : Nat, 1 ≤ k → k ≤ xs.length → kk ≠ k) (hk : Keep (fun k => B0 ≤ k) w0 w)
    (hB : B0 ≤ w0.heap.size) (hown : ∀ k, OwnR lr sc sr ob k → B0 ≤ k) : EachInv f B0 g1 g2 g3 g4 base sb stx kk lr sc sr ea ta s w0 E w2 0 := by
  subst hn
  refine ⟨xs, [], ob2, h1, h5, .inr ⟨h8, ?_, hrd2, rfl⟩, hg.kept hk2 (fun k => hrd.types), hkk, hk.trans' hk2 (fun k _ => hown k), ownR_fresh hown hf2 (Nat.le_trans hB hk.size)⟩
  rw [hl, hnil, linesOf_nil, List.append_nil]

set_option maxHeartbeats 1000000 in
theorem each_loop {c : Code} (hc : findBlock 0 (Tryf.f23.body.getD .skip) = some c) (hf : Tryf.prog.funcs[f]? = some fn) (hfb : fn.body.isNone = false) (hfn : (fn.name == "runtime.NumGoroutine") = false) (hcb : Callback f B0 g1 g2 g3 g4 base sb stx kk)
    (hsz : s.size ≤ 65536) (hB7 : 7 ≤ B0) (hB : B0 ≤ w0.heap.size) {Q : Exit → Env → World → Prop} {E : Env} {w : World} {m : Nat} (hI : EachInv f B0 g1 g2 g3 g4 base sb stx kk lr sc sr ea ta s w0 E w m)
    (hend : ∀ E' w' ob, E' 5 = .pointer (some ⟨lr, 0, none⟩) → Rd w' lr sc sr ea ta s [] ob (linesOf s.data.toList).length → Got w' B0 g1 g2 g3 g4 base sb stx kk (linesOf s.data.toList) → (∀ k : Nat, 1 ≤ k → k ≤ (linesOf s.data.toList).length → kk ≠ k) → Keep (fun k => B0 ≤ k) w0 w' → Q .normal E' w')
    (hstop : ∀ E' w' (k : Nat) t v, E' 4 = .iface t v → 1 ≤ k → k ≤ (linesOf s.data.toList).length → kk = k → Got w' B0 g1 g2 g3 g4 base sb stx kk ((linesOf s.data.toList).take k) → Keep (fun k => B0 ≤ k) w0 w' → Q .ret E' w') :
    cE Tryf.prog 36 c Q E w := by
  have hll : (linesOf s.data.toList).length ≤ 65536 := Nat.le_trans (linesOf_length _) hsz
  cases hc
  refine cE_block ?_
  refine cE_loop (EachInv f B0 g1 g2 g3 g4 base sb stx kk lr sc sr ea ta s w0) hI ?_
  rintro E w m ⟨xs, rest, ob, h1, h5, hcase, hgot, hkk, hk, hown⟩
  rcases hcase with ⟨line, h6, h7, h8, hl, hrd, hm⟩ | ⟨h8, hl, hrd, hm⟩
  · have hlen : xs.length + 1 ≤ (linesOf s.data.toList).length := by rw [hl]; simp
    rw [keep5 h1 h5 h6 h7 h8]
    refine cE_seq ?_
    refine cE_list ?_
    refine lE_val (v := (.bool true)) (x_move (v := (.bool true)) rfl) rfl (by decide) rfl ?_
    refine lE_nil ?_
    refine cE_condT rfl (cE_skipT ?_)
    refine cE_seq ?_
    refine cE_block ?_
    refine cE_list ?_
    refine lE_val (v := (.func (.func f) #[] #[(.pointer (some ⟨g1, 0, none⟩)), (.pointer (some ⟨g2, 0, none⟩)), (.pointer (some ⟨g3, 0, none⟩)), (.pointer (some ⟨g4, 0, none⟩))])) (x_move (v := (.func (.func f) #[] #[(.pointer (some ⟨g1, 0, none⟩)), (.pointer (some ⟨g2, 0, none⟩)), (.pointer (some ⟨g3, 0, none⟩)), (.pointer (some ⟨g4, 0, none⟩))])) rfl) rfl (by decide) rfl ?_
    refine lE_val (v := (.int .i64 (xs.length + 1 : Nat))) (x_move (v := (.int .i64 (xs.length + 1 : Nat))) rfl) rfl (by decide) rfl ?_
    refine lE_val (v := (.string (strB line))) (x_move (v := (.string (strB line))) rfl) rfl (by decide) rfl ?_
    refine lE_call (x_callv2c hf hfb hfn rfl rfl rfl) rfl (by decide) rfl ?_
    refine (hcb hgot line (by omega)).mono ?_
    rintro r w2 ⟨hgot2, hkg, hst | hgo⟩
    · obtain ⟨hkk, hr⟩ := hst
      rw [hr]; refine ⟨_, rfl, ?_⟩
      refine lE_val (v := (.iface 54 (.pointer (some ⟨sb, 0, none⟩)))) (x_assign (v := (.iface 54 (.pointer (some ⟨sb, 0, none⟩)))) rfl) rfl (by decide) rfl ?_
      refine lE_nil ?_
      refine cE_list ?_
      refine lE_val (v := (.iface 54 (.pointer (some ⟨sb, 0, none⟩)))) (x_move (v := (.iface 54 (.pointer (some ⟨sb, 0, none⟩)))) rfl) rfl (by decide) rfl ?_
      refine lE_val (v := (.bool true)) (x_neqnil' rfl rfl) rfl (by decide) rfl ?_
      refine lE_nil ?_
      refine cE_condT rfl ?_
      refine cE_list ?_
      refine lE_val (v := (.int .i64 (xs.length + 1 : Nat))) (x_move (v := (.int .i64 (xs.length + 1 : Nat))) rfl) rfl (by decide) rfl ?_
      refine lE_val (v := (.iface 54 (.pointer (some ⟨sb, 0, none⟩)))) (x_move (v := (.iface 54 (.pointer (some ⟨sb, 0, none⟩)))) rfl) rfl (by decide) rfl ?_
      refine lE_call (x_call2 Tryf.func29 (by kernel_rfl) (by kernel_rfl) rfl rfl rfl) rfl (by decide) rfl ?_
      refine (at_calls _ ⟨sb, 0, none⟩ stx w2 (by rw [hgot2.ht.cell]; rfl) hgot2.ht.lt).mono ?_
      rintro r w3 ⟨⟨bb, hr3⟩, hk3⟩
      rw [hr3]; refine ⟨_, rfl, ?_⟩
      refine lE_val (v := (.iface 78 (.pointer (some bb)))) (x_assign (v := (.iface 78 (.pointer (some bb)))) rfl) rfl (by decide) rfl ?_
      refine lE_nil ?_
      refine cE_ret ?_
      refine hstop _ _ (xs.length + 1) _ _ rfl (by omega) hlen hkk ?_ ?_
      · have e : (linesOf s.data.toList).take (xs.length + 1) = xs ++ [line] := by rw [hl]; exact take_line _ _ _
        rw [e]
        exact hgot2.kept hk3 (fun k h => h.elim)
      · exact (hk.trans' hkg (fun k _ h => h.1)).trans' hk3 (fun k _ h => h.elim)
    · have hrd3 : Rd w2 lr sc sr ea ta s rest ob (xs.length + 1) := hrd.kept hkg hB7
      have hk3 : Keep (fun k => B0 ≤ k) w0 w2 := hk.trans' hkg (fun k _ h => h.1)
      have hl3 : linesOf s.data.toList = (xs ++ [line]) ++ linesOf rest := by rw [hl]; simp
      have hlen3 : (xs ++ [line]).length = xs.length + 1 := by simp
      obtain ⟨hkk9, hr⟩ := hgo
      rw [hr]; refine ⟨_, rfl, ?_⟩
      refine lE_val (v := .nilIface) (x_assign (v := .nilIface) rfl) rfl (by decide) rfl ?_
      refine lE_nil ?_
      refine cE_list ?_
      refine lE_val (v := .nilIface) (x_move (v := .nilIface) rfl) rfl (by decide) rfl ?_
      refine lE_val (v := (.bool false)) (x_neqnil rfl rfl) rfl (by decide) rfl ?_
      refine lE_nil ?_
      refine cE_condF rfl (cE_skipN ?_)
      change cE Tryf.prog 36 _ _ _ _
      generalize hw3 : w2 = w3 at *
      have hkk3 : ∀ k : Nat, 1 ≤ k → k ≤ (xs ++ [line]).length → kk ≠ k := by
        intro k hk1 hk2 e
        rw [hlen3] at hk2
        by_cases hq : k ≤ xs.length
        · exact hkk k hk1 hq e
        · have : k = xs.length + 1 := by omega
          subst this
          exact hkk9 e
      refine cE_list_last ?_
      refine lE_val (v := (.pointer (some ⟨lr, 0, none⟩))) (x_move (v := (.pointer (some ⟨lr, 0, none⟩))) rfl) rfl (by decide) rfl ?_
      refine lE_call (x_call1 Tryf.func20 (by kernel_rfl) (by kernel_rfl) rfl rfl) rfl (by decide) rfl ?_
      refine (next_calls hrd3 (by omega)).mono ?_
      rintro r w2 (⟨hne, hr, ob2, hrd2, hk2, hf2⟩ | ⟨hnil, hr, ob2, hrd2, hk2, hf2⟩)
      · rw [hr]; refine ⟨_, rfl, ?_⟩
        refine lE_val (v := (.tuple #[(.int .i64 ((xs.length + 1) + 1 : Nat)), (.string (strB (dropCRl (lineOf rest)))), (.bool true)])) (x_move (v := (.tuple #[(.int .i64 ((xs.length + 1) + 1 : Nat)), (.string (strB (dropCRl (lineOf rest)))), (.bool true)])) rfl) rfl (by decide) rfl ?_
        refine lE_val (v := (.int .i64 ((xs.length + 1) + 1 : Nat))) (x_ext (v := (.int .i64 ((xs.length + 1) + 1 : Nat))) rfl rfl) rfl (by decide) rfl ?_
        refine lE_val (v := (.string (strB (dropCRl (lineOf rest))))) (x_ext (v := (.string (strB (dropCRl (lineOf rest))))) rfl rfl) rfl (by decide) rfl ?_
        refine lE_val (v := (.bool true)) (x_ext (v := (.bool true)) rfl rfl) rfl (by decide) rfl ?_
        refine lE_val (v := (.int .i64 ((xs.length + 1) + 1 : Nat))) (x_assign (v := (.int .i64 ((xs.length + 1) + 1 : Nat))) rfl) rfl (by decide) rfl ?_
        refine lE_val (v := (.string (strB (dropCRl (lineOf rest))))) (x_assign (v := (.string (strB (dropCRl (lineOf rest))))) rfl) rfl (by decide) rfl ?_
        refine lE_val (v := (.bool true)) (x_assign (v := (.bool true)) rfl) rfl (by decide) rfl ?_
        refine lE_nil ?_
        refine ⟨_, ?_, inv_yes hlen3 rfl rfl rfl rfl rfl hne hl3 hrd3 hrd2 hk2 hf2 hgot2 hkk3 hk3 hB hown⟩
        have := restOf_lt hne
        omega
      · rw [hr]; refine ⟨_, rfl, ?_⟩
        refine lE_val (v := (.tuple #[(.int .i64 0), (.string ⟨#[]⟩), (.bool false)])) (x_move (v := (.tuple #[(.int .i64 0), (.string ⟨#[]⟩), (.bool false)])) rfl) rfl (by decide) rfl ?_
        refine lE_val (v := (.int .i64 0)) (x_ext (v := (.int .i64 0)) rfl rfl) rfl (by decide) rfl ?_
        refine lE_val (v := (.string ⟨#[]⟩)) (x_ext (v := (.string ⟨#[]⟩)) rfl rfl) rfl (by decide) rfl ?_
        refine lE_val (v := (.bool false)) (x_ext (v := (.bool false)) rfl rfl) rfl (by decide) rfl ?_
        refine lE_val (v := (.int .i64 0)) (x_assign (v := (.int .i64 0)) rfl) rfl (by decide) rfl ?_
        refine lE_val (v := (.string ⟨#[]⟩)) (x_assign (v := (.string ⟨#[]⟩)) rfl) rfl (by decide) rfl ?_
        refine lE_val (v := (.bool false)) (x_assign (v := (.bool false)) rfl) rfl (by decide) rfl ?_
        refine lE_nil ?_
        exact ⟨0, by omega, inv_no hlen3 rfl rfl rfl hnil hl3 hrd3 hrd2 hk2 hf2 hgot2 hkk3 hk3 hB hown⟩
  · subst hl
    rw [keep3 h1 h5 h8]
    refine cE_seq ?_
    refine cE_list ?_
    refine lE_val (v := (.bool false)) (x_move (v := (.bool false)) rfl) rfl (by decide) rfl ?_
    refine lE_nil ?_
    refine cE_condF rfl ?_
    refine cE_exit ?_
    exact hend _ _ ob rfl hrd hgot hkk hk
theorem each_tail {ops : Array Oper} {b : Bool} (h : findRegion 8 (Tryf.f23.body.getD .skip) = some (ops, b)) {E : Env} {w : World} {ob : Option Nat} (h5 : E 5 = .pointer (some ⟨lr, 0, none⟩)) (hrd : Rd w lr sc sr ea ta s [] ob (linesOf s.data.toList).length)
    (hgot : Got w B0 g1 g2 g3 g4 base sb stx kk (linesOf s.data.toList)) (hkk : ∀ k : Nat, 1 ≤ k → k ≤ (linesOf s.data.toList).length → kk ≠ k) (hk : Keep (fun k => B0 ≤ k) w0 w) :
    cE Tryf.prog 36 (.seq (.region 8 ops b) .ret) (endE (fun E => E 4) fun r w' => ∃ xs, Got w' B0 g1 g2 g3 g4 base sb stx kk xs ∧ Keep (fun k => B0 ≤ k) w0 w' ∧ EachEnd (linesOf s.data.toList) kk xs r) E w := by
  cases h
  rw [keep1 h5]
  refine cE_list ?_
  refine lE_val (v := (.pointer (some ⟨lr, 0, none⟩))) (x_move (v := (.pointer (some ⟨lr, 0, none⟩))) rfl) rfl (by decide) rfl ?_
  refine lE_call (x_call1 Tryf.func21 (by kernel_rfl) (by kernel_rfl) rfl rfl) rfl (by decide) rfl ?_
  refine Calls.mono (rdErr_calls hrd.hR) ?_
  intro rr ww hrr; obtain ⟨hr1, hr2⟩ := hrr; rw [hr1, hr2]; refine ⟨_, rfl, ?_⟩
  refine lE_val (v := .nilIface) (x_assign (v := .nilIface) rfl) rfl (by decide) rfl ?_
  refine lE_nil ?_
  exact cE_retE ⟨_, hgot, hk, .inr ⟨hkk, rfl, rfl⟩⟩
end

set_option maxHeartbeats 1000000 in
theorem each_calls {f : FuncId} {fn : Func} (hf : Tryf.prog.funcs[f]? = some fn) (hfb : fn.body.isNone = false) (hfn : (fn.name == "runtime.NumGoroutine") = false) {B0 g1 g2 g3 g4 base sb : Nat} {stx : ByteArray} {kk : Int} (hcb : Callback f B0 g1 g2 g3 g4 base sb stx kk)
    {w : World} {sr : Nat} {ea ta : Addr} {s : ByteArray} (hS : Blk w sr (srC s 0 (-1)) 60) (hG : w.cell? ⟨4, 0, none⟩ = some (.iface 54 (.pointer (some ea)))) (hT : w.cell? ⟨0, 0, none⟩ = some (.iface 54 (.pointer (some ta)))) (hsz : s.size ≤ 65536)
    (hsr : B0 ≤ sr) (hB0 : 7 ≤ B0) (hB0w : B0 ≤ w.heap.size) (hg0 : Got w B0 g1 g2 g3 g4 base sb stx kk []) :
    Calls Tryf.prog 23 #[rdV sr, .func (.func f) #[] #[.pointer (some ⟨g1, 0, none⟩), .pointer (some ⟨g2, 0, none⟩), .pointer (some ⟨g3, 0, none⟩), .pointer (some ⟨g4, 0, none⟩)]] w fun r w' =>
      ∃ xs, Got w' B0 g1 g2 g3 g4 base sb stx kk xs ∧ Keep (fun k => B0 ≤ k) w w' ∧ EachEnd (linesOf s.data.toList) kk xs r := by
  have hll : (linesOf s.data.toList).length ≤ 65536 := Nat.le_trans (linesOf_length _) hsz
  refine calls_E Tryf.func23 rfl Tryf.ntmps23 (by simp) (env2 _ _) _ (res1 Tryf.results23) ?_
  refine cE_list ?_
  refine lE_val (v := .nilIface) (x_assign (v := .nilIface) rfl) rfl (by decide) rfl ?_
  refine lE_nil ?_
  refine cE_list ?_
  refine lE_val (v := (rdV sr)) (x_move (v := (rdV sr)) rfl) rfl (by decide) rfl ?_
  refine lE_call (x_call1 Tryf.func25 (by kernel_rfl) (by kernel_rfl) rfl rfl) rfl (by decide) rfl ?_
  refine (newReader_calls sr w).mono ?_
  rintro r w1 ⟨hr, hB1, hR1, hk1⟩
  rw [hr]; refine ⟨_, rfl, ?_⟩
  refine lE_val (v := (.pointer (some ⟨w.heap.size + 1, 0, none⟩))) (x_assign (v := (.pointer (some ⟨w.heap.size + 1, 0, none⟩))) rfl) rfl (by decide) rfl ?_
  refine lE_nil ?_
  generalize hlr : w.heap.size + 1 = lr at *
  generalize hsc : w.heap.size = sc at *
  have hrd1 : Rd w1 lr sc sr ea ta s s.data.toList none 0 := Rd.init (hk1.blk hS (fun h => h)) hB1 hR1 (hk1.cell hG (fun h => h)) (hk1.cell hT (fun h => h)) hsz (by omega) (by omega) (by omega)
  have hg1 : Got w1 B0 g1 g2 g3 g4 base sb stx kk [] := hg0.kept hk1 (fun k h => h.elim)
  have hk01 : Keep (fun k => B0 ≤ k) w w1 := hk1.mono fun k _ h => h.elim
  have hown1 : ∀ k, OwnR lr sc sr none k → B0 ≤ k := by
    rintro k (e | e | e | e)
    · omega
    · omega
    · omega
    · cases e
  refine cE_seq ?_
  have hl1 : linesOf s.data.toList = [] ++ linesOf s.data.toList := rfl
  have h0k : ∀ k : Nat, 1 ≤ k → k ≤ ([] : List (List UInt8)).length → kk ≠ k := by
    intro k h1 h2
    simp at h2
    omega
  refine cE_list ?_
  refine lE_val (v := (.pointer (some ⟨lr, 0, none⟩))) (x_move (v := (.pointer (some ⟨lr, 0, none⟩))) rfl) rfl (by decide) rfl ?_
  refine lE_call (x_call1 Tryf.func20 (by kernel_rfl) (by kernel_rfl) rfl rfl) rfl (by decide) rfl ?_
  refine (next_calls hrd1 (by omega)).mono ?_
  rintro r w2 (⟨hne, hr, ob2, hrd2, hk2, hf2⟩ | ⟨hnil, hr, ob2, hrd2, hk2, hf2⟩)
  · rw [hr]; refine ⟨_, rfl, ?_⟩
    refine lE_val (v := (.tuple #[(.int .i64 (0 + 1 : Nat)), (.string (strB (dropCRl (lineOf s.data.toList)))), (.bool true)])) (x_move (v := (.tuple #[(.int .i64 (0 + 1 : Nat)), (.string (strB (dropCRl (lineOf s.data.toList)))), (.bool true)])) rfl) rfl (by decide) rfl ?_
    refine lE_val (v := (.int .i64 (0 + 1 : Nat))) (x_ext (v := (.int .i64 (0 + 1 : Nat))) rfl rfl) rfl (by decide) rfl ?_
    refine lE_val (v := (.string (strB (dropCRl (lineOf s.data.toList))))) (x_ext (v := (.string (strB (dropCRl (lineOf s.data.toList))))) rfl rfl) rfl (by decide) rfl ?_
    refine lE_val (v := (.bool true)) (x_ext (v := (.bool true)) rfl rfl) rfl (by decide) rfl ?_
    refine lE_val (v := (.int .i64 (0 + 1 : Nat))) (x_assign (v := (.int .i64 (0 + 1 : Nat))) rfl) rfl (by decide) rfl ?_
    refine lE_val (v := (.string (strB (dropCRl (lineOf s.data.toList))))) (x_assign (v := (.string (strB (dropCRl (lineOf s.data.toList))))) rfl) rfl (by decide) rfl ?_
    refine lE_val (v := (.bool true)) (x_assign (v := (.bool true)) rfl) rfl (by decide) rfl ?_
    refine lE_nil ?_
    refine each_loop rfl hf hfb hfn hcb hsz hB0 (by omega) (inv_yes (xs := []) rfl rfl rfl rfl rfl rfl hne hl1 hrd1 hrd2 hk2 hf2 hg1 h0k hk01 (by omega) hown1) ?_ ?_
    · intro E' w' ob h5 hrd hgot hkk hk
      exact each_tail rfl h5 hrd hgot hkk hk
    · intro E' w' k t v h4 hk1 hk2 hkk hgot hk
      exact ⟨.inr rfl, _, hgot, hk, .inl ⟨k, hk1, hk2, hkk, rfl, t, v, congrArg Ending.returned h4⟩⟩
  · rw [hr]; refine ⟨_, rfl, ?_⟩
    refine lE_val (v := (.tuple #[(.int .i64 0), (.string ⟨#[]⟩), (.bool false)])) (x_move (v := (.tuple #[(.int .i64 0), (.string ⟨#[]⟩), (.bool false)])) rfl) rfl (by decide) rfl ?_
    refine lE_val (v := (.int .i64 0)) (x_ext (v := (.int .i64 0)) rfl rfl) rfl (by decide) rfl ?_
    refine lE_val (v := (.string ⟨#[]⟩)) (x_ext (v := (.string ⟨#[]⟩)) rfl rfl) rfl (by decide) rfl ?_
    refine lE_val (v := (.bool false)) (x_ext (v := (.bool false)) rfl rfl) rfl (by decide) rfl ?_
    refine lE_val (v := (.int .i64 0)) (x_assign (v := (.int .i64 0)) rfl) rfl (by decide) rfl ?_
    refine lE_val (v := (.string ⟨#[]⟩)) (x_assign (v := (.string ⟨#[]⟩)) rfl) rfl (by decide) rfl ?_
    refine lE_val (v := (.bool false)) (x_assign (v := (.bool false)) rfl) rfl (by decide) rfl ?_
    refine lE_nil ?_
    refine each_loop rfl hf hfb hfn hcb hsz hB0 (by omega) (inv_no (xs := []) rfl rfl rfl rfl hnil hl1 hrd1 hrd2 hk2 hf2 hg1 h0k hk01 (by omega) hown1) ?_ ?_
    · intro E' w' ob h5 hrd hgot hkk hk
      exact each_tail rfl h5 hrd hgot hkk hk
    · intro E' w' k t v h4 hk1 hk2 hkk hgot hk
      exact ⟨.inr rfl, _, hgot, hk, .inl ⟨k, hk1, hk2, hkk, rfl, t, v, congrArg Ending.returned h4⟩⟩
end Go.Proofs.Qxb6613145aFmt
