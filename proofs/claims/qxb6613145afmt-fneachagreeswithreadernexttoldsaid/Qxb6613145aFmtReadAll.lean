/-
  zzReadAll. (The regions' lines are written by gen/readall.py.)
-/
import Derived.Test.Qxb6613145aFmtStops
import Derived.Test.Qxb6613145aFmtCount
namespace Go.Proofs.Qxb6613145aFmt
open Go.RowKit
set_option maxRecDepth 100000

theorem x_eqSs {ρ : Operand → Value} {dst : Option Tmp} {ty : TypeId} {pos : String} {after : Array Edge} {g : Option (Nat × Bool)} {w : World} {x y : Operand} {s : ByteArray} (h : ρ x = .string s) (h' : ρ y = .string s) :
    (execOp ρ ⟨dst, .binOp .eql 9 x y 9, ty, pos, after, g⟩).run Tryf.prog w = .ok (.value (.bool true)) w := by
  simp [go_sem, h, h']

/-- A guarded call that leaves the world alone. -/
theorem lE_gcall {P : Program} {n : Nat} {ops : Array Oper} {Post : Env → World → Prop} {E : Env} {w : World} {rest : List Oper} {o : Oper} {d j t : Nat} {want : Bool} {f : FuncId} {args : Array Value} {v : Value}
    (hr : (execOp (evE E) o).run P w = .ok (.enter f args) w) (hd : o.dst = some d) (hn : d < n) (hg : o.guard = some (j, want)) (hj : (ops[j]?).bind (·.dst) = some t) (ht : t < n) (hb : E t = .bool want)
    (hc : Calls P f args w fun e w' => e = .returned v ∧ w' = w) (h : lE P n ops Post rest (upd E d v) w) : lE P n ops Post (o :: rest) E w := fun a ha => by
  refine wpList_step fun K hK => ?_
  rw [if_pos (by unfold Region.wanted; rw [hg]; simp only [ha.yielded hj ht, hb]; simp)]
  unfold Oper.wp
  rw [ha.eval, hr, Oper.upon_enter, hd]
  refine hc.mono ?_
  rintro e w' ⟨h1, h2⟩
  rw [h1, h2]
  exact hK _ _ (h _ (ha.put hn v))

theorem newRdStr_calls {w : World} {ea ta : Addr} {s : ByteArray} (hG : w.cell? ⟨4, 0, none⟩ = some (.iface 54 (.pointer (some ea)))) (hT : w.cell? ⟨0, 0, none⟩ = some (.iface 54 (.pointer (some ta)))) (hsz : s.size ≤ 65536) (h7 : 7 ≤ w.heap.size) :
    Calls Tryf.prog 19 #[.string s] w fun r w' => ∃ lr sc sr, r = .returned (.pointer (some ⟨lr, 0, none⟩)) ∧ Rd w' lr sc sr ea ta s s.data.toList none 0 ∧ Keep (fun _ => False) w w' ∧ (∀ k, OwnR lr sc sr none k → w.heap.size ≤ k) := by
  have hk : Keep (fun _ => False) w (w.alloc (.cells #[.string s, .int .i64 0, .int .i64 (-1)] 60)) := (Keep.refl _ w).alloc _
  have hz : (w.alloc (.cells #[.string s, .int .i64 0, .int .i64 (-1)] 60)).heap.size = w.heap.size + 1 := by simp
  refine calls_E Tryf.func19 rfl Tryf.ntmps19 (by simp) (env1 _) _ (res1 Tryf.results19) ?_
  refine cE_list ?_
  refine lE_val (v := (.pointer none)) (x_assign (v := (.pointer none)) rfl) rfl (by decide) rfl ?_
  refine lE_nil ?_
  refine cE_list ?_
  refine lE_val (v := (.string s)) (x_move (v := (.string s)) rfl) rfl (by decide) rfl ?_
  refine lE_call (x_call1 Tryf.func24 (by kernel_rfl) (by kernel_rfl) rfl rfl) rfl (by decide) rfl ?_
  refine Calls.mono (newStr_calls s w) ?_
  intro rr ww hrr; obtain ⟨hr1, hr2⟩ := hrr; rw [hr1, hr2]; refine ⟨_, rfl, ?_⟩
  refine lE_val (v := (rdV w.heap.size)) (x_mkI43 rfl) rfl (by decide) rfl ?_
  refine lE_call (x_call1 Tryf.func25 (by kernel_rfl) (by kernel_rfl) rfl rfl) rfl (by decide) rfl ?_
  refine (newReader_calls w.heap.size _).mono ?_
  rintro r w2 ⟨hr, hB2, hR2, hk2⟩
  rw [hr]; refine ⟨_, rfl, ?_⟩
  refine lE_val (x_assign rfl) rfl (by decide) rfl ?_
  refine lE_nil ?_
  have hk02 := hk.trans hk2
  refine cE_retE ⟨_, _, w.heap.size, rfl, Rd.init (hk2.blk (Blk.alloc_new w _ _) (fun h => h)) hB2 hR2 (hk02.cell hG (fun h => h)) (hk02.cell hT (fun h => h)) hsz (by omega) h7 (by omega), hk02, ?_⟩
  rintro k (e | e | e | e)
  · omega
  · omega
  · omega
  · cases e

/-- What holds at the loop's head. -/
def RaInv (lr sc sr : Nat) (ea ta : Addr) (s : ByteArray) (w0 : World) (E : Env) (w : World) (m : Nat) : Prop :=
  ∃ xs rest ob v1 v2, E 0 = .string s ∧ E 5 = .pointer (some ⟨lr, 0, none⟩) ∧ E 6 = v1 ∧ E 7 = v2 ∧ E 8 = .int .i64 (xs.length : Nat) ∧ linesOf s.data.toList = xs ++ linesOf rest ∧ Rd w lr sc sr ea ta s rest ob xs.length ∧
    w.ownsRow w0.heap.size 3 1 v1 xs.length (numsV xs.length) ∧ w.ownsRow w0.heap.size 9 1 v2 xs.length (xs.map strV) ∧ Keep (fun k => w0.heap.size ≤ k) w0 w ∧ (∀ k, OwnR lr sc sr ob k → w0.heap.size ≤ k) ∧ m = rest.length

/-- A row of the callers' own is none of the reader's. -/
theorem row_reader {w w' : World} {lr sc sr : Nat} {ea ta : Addr} {s : ByteArray} {rest : List UInt8} {ob : Option Nat} {n : Nat} (h : Rd w lr sc sr ea ta s rest ob n) (hK : Keep (OwnR lr sc sr ob) w w') {base : Nat} {e : TypeId} {v : Value} {m : Nat} {ys : List Value}
    (ho : w.ownsRow base e 1 v m ys) (he : e = 3 ∨ e = 9) : w'.ownsRow base e 1 v m ys := by
  refine ownsRow_kept ho (fun g hg => ?_)
  obtain ⟨_, cs, hb⟩ := ownsRow_block ho hg
  refine hK.block g hb.lt (fun hx => ?_)
  obtain ⟨cs', ty, hb', hty⟩ := h.types hx
  have := hb.ty hb'
  subst this
  rcases he with he | he <;> rcases hty with h' | h' | h' | h' <;> rw [he] at h' <;> cases h'
/-- An append to such a row, as the reader sees it. -/
theorem keepRowT {w w' : World} {B0 base : Nat} {e : TypeId} {v : Value} {m : Nat} {ys : List Value} {o : Obj} (ho : w.ownsRow base e 1 v m ys) (hB : B0 ≤ base) (he : e = 3 ∨ e = 9) (hk : Keep (fun k => v.ownBlock = some k) (w.alloc o) w') : Keep (GotT w B0) w w' :=
  ((Keep.refl _ w).alloc o).trans (hk.mono fun k _ h => by
    obtain ⟨hge, cs, hb⟩ := ownsRow_block ho h
    exact ⟨Nat.le_trans hB hge, cs, e, hb, he.elim (fun h => .inr (.inr (.inl h))) (fun h => .inr (.inr (.inr h)))⟩)
/-- .. and as a row of another element type sees it. -/
theorem row_row {w w' : World} {base base' : Nat} {e e' : TypeId} {v v' : Value} {m m' : Nat} {ys ys' : List Value} {o : Obj} (ho : w.ownsRow base e 1 v m ys) (ho' : w.ownsRow base' e' 1 v' m' ys') (hne : e ≠ e') (hk : Keep (fun k => v.ownBlock = some k) (w.alloc o) w') :
    w'.ownsRow base' e' 1 v' m' ys' := by
  refine ownsRow_kept ho' (fun g hg => ?_)
  obtain ⟨_, cs, hb⟩ := ownsRow_block ho' hg
  rw [hk.block g (Nat.lt_of_lt_of_le hb.lt (by simp)) (fun hx => by obtain ⟨_, cs', hb'⟩ := ownsRow_block ho hx; exact hne (hb'.ty hb))]
  exact Below.heap_alloc _ _ _ hb.lt

set_option maxHeartbeats 1000000 in
theorem ra_loop {c : Code} (hc : findBlock 0 (Tryf.f9.body.getD .skip) = some c) {lr sc sr : Nat} {ea ta : Addr} {s : ByteArray} (hsz : s.size ≤ 65536) {w0 : World} (h7 : 7 ≤ w0.heap.size) {Q : Exit → Env → World → Prop} {E : Env} {w : World} {m : Nat} (hI : RaInv lr sc sr ea ta s w0 E w m)
    (hend : ∀ E' w' v1 v2, E' 2 = v1 → E' 3 = v2 → E' 4 = .bool true → w'.ownsRow w0.heap.size 3 1 v1 (linesOf s.data.toList).length (numsV (linesOf s.data.toList).length) → w'.ownsRow w0.heap.size 9 1 v2 (linesOf s.data.toList).length ((linesOf s.data.toList).map strV) →
      Keep (fun k => w0.heap.size ≤ k) w0 w' → Q .ret E' w') : cE Tryf.prog 75 c Q E w := by
  have hll : (linesOf s.data.toList).length ≤ s.size := linesOf_length _
  cases hc
  refine cE_block ?_
  refine cE_loop (RaInv lr sc sr ea ta s w0) hI ?_
  rintro E w m ⟨xs, rest, ob, v1, v2, h0, h5, h6, h7', h8, hl, hrd, o1', o2', hK, hown, hm⟩
  have hxl : xs.length ≤ s.size := by
    have := congrArg List.length hl
    rw [List.length_append] at this
    omega
  have h1 : decide (((xs.length : Nat) : Int) ≤ ((s.size + 1 : Nat) : Int)) = true := by simp; omega
  rw [keep5 h0 h5 h6 h7' h8]
  refine cE_seq ?_
  refine cE_list ?_
  refine lE_val (v := (.int .i64 (xs.length : Nat))) (x_move (v := (.int .i64 (xs.length : Nat))) rfl) rfl (by decide) rfl ?_
  refine lE_val (v := (.string s)) (x_move (v := (.string s)) rfl) rfl (by decide) rfl ?_
  refine lE_val (v := (.int .i64 (s.size : Nat))) (x_lenS rfl) rfl (by decide) rfl ?_
  refine lE_val (v := (.int .i64 (s.size + 1 : Nat))) (x_add (r := ((s.size + 1 : Nat) : Int)) rfl rfl (by omega) (by omega) (by omega)) rfl (by decide) rfl ?_
  refine lE_val (v := (.bool true)) (by rw [← h1]; exact x_leq rfl rfl) rfl (by decide) rfl ?_
  refine lE_nil ?_
  refine cE_condT rfl (cE_skipT ?_)
  refine cE_seq ?_
  refine cE_block ?_
  refine cE_list ?_
  refine lE_val (v := (.pointer (some ⟨lr, 0, none⟩))) (x_move (v := (.pointer (some ⟨lr, 0, none⟩))) rfl) rfl (by decide) rfl ?_
  refine lE_call (x_call1 Tryf.func20 (by kernel_rfl) (by kernel_rfl) rfl rfl) rfl (by decide) rfl ?_
  refine (next_calls hrd (by omega)).mono ?_
  rintro r w2 (⟨hne, hr, ob2, hrd2, hk2, hf2⟩ | ⟨hnil, hr, ob2, hrd2, hk2, hf2⟩)
  · have o1 := row_reader hrd hk2 o1' (.inl rfl)
    have o2 := row_reader hrd hk2 o2' (.inr rfl)
    have hK2 : Keep (fun k => w0.heap.size ≤ k) w0 w2 := hK.trans' hk2 (fun k _ => hown k)
    rw [hr]; refine ⟨_, rfl, ?_⟩
    refine lE_val (v := (.tuple #[(.int .i64 (xs.length + 1 : Nat)), (.string (strB (dropCRl (lineOf rest)))), (.bool true)])) (x_move (v := (.tuple #[(.int .i64 (xs.length + 1 : Nat)), (.string (strB (dropCRl (lineOf rest)))), (.bool true)])) rfl) rfl (by decide) rfl ?_
    refine lE_val (v := (.int .i64 (xs.length + 1 : Nat))) (x_ext (v := (.int .i64 (xs.length + 1 : Nat))) rfl rfl) rfl (by decide) rfl ?_
    refine lE_val (v := (.string (strB (dropCRl (lineOf rest))))) (x_ext (v := (.string (strB (dropCRl (lineOf rest))))) rfl rfl) rfl (by decide) rfl ?_
    refine lE_val (v := (.bool true)) (x_ext (v := (.bool true)) rfl rfl) rfl (by decide) rfl ?_
    refine lE_val (v := (.int .i64 (xs.length + 1 : Nat))) (x_assign (v := (.int .i64 (xs.length + 1 : Nat))) rfl) rfl (by decide) rfl ?_
    refine lE_val (v := (.string (strB (dropCRl (lineOf rest))))) (x_assign (v := (.string (strB (dropCRl (lineOf rest))))) rfl) rfl (by decide) rfl ?_
    refine lE_val (v := (.bool true)) (x_assign (v := (.bool true)) rfl) rfl (by decide) rfl ?_
    refine lE_nil ?_
    refine cE_seq ?_
    refine cE_list ?_
    refine lE_val (v := (.bool true)) (x_move (v := (.bool true)) rfl) rfl (by decide) rfl ?_
    refine lE_val (v := (.bool false)) (x_not (b := true) rfl) rfl (by decide) rfl ?_
    refine lE_nil ?_
    refine cE_condF rfl (cE_skipT ?_)
    refine cE_list ?_
    refine lE_val (v := v1) (x_move (v := v1) rfl) rfl (by decide) rfl ?_
    refine lE_val (v := (.int .i64 (xs.length + 1 : Nat))) (x_move (v := (.int .i64 (xs.length + 1 : Nat))) rfl) rfl (by decide) rfl ?_
    refine lE_val (v := (.slice (some ⟨w2.heap.size, 0, none⟩) 1 1)) (x_bs25 rfl) rfl (by decide) rfl ?_
    refine lE_append25 rfl rfl (o1.alloc _) (Blk.alloc_new w2 _ _) rfl (by omega) ?_ (by decide) ?_
    · simp; exact Nat.le_succ_of_le hK2.size
    intro u1 wa p1 k1
    refine lE_val (v := u1) (x_assign (v := u1) rfl) rfl (by decide) rfl ?_
    refine lE_nil ?_
    have ka : Keep (GotT w2 w0.heap.size) w2 wa := keepRowT o1 (Nat.le_refl _) (.inl rfl) k1
    have o2a : wa.ownsRow w0.heap.size 9 1 v2 xs.length (xs.map strV) := row_row o1 o2 (by decide) k1
    have hrda := hrd2.kept ka h7
    refine cE_list_last ?_
    refine lE_val (v := v2) (x_move (v := v2) rfl) rfl (by decide) rfl ?_
    refine lE_val (v := (.string (strB (dropCRl (lineOf rest))))) (x_move (v := (.string (strB (dropCRl (lineOf rest))))) rfl) rfl (by decide) rfl ?_
    refine lE_val (v := (.slice (some ⟨wa.heap.size, 0, none⟩) 1 1)) (x_bs23 rfl) rfl (by decide) rfl ?_
    refine lE_append23 rfl rfl (o2a.alloc _) (Blk.alloc_new wa _ _) rfl (by omega) ?_ (by decide) ?_
    · simp; exact Nat.le_succ_of_le (Nat.le_trans hK2.size ka.size)
    intro u2 wb p2 k2
    refine lE_val (v := u2) (x_assign (v := u2) rfl) rfl (by decide) rfl ?_
    refine lE_nil ?_
    change cE Tryf.prog 75 _ _ _ _
    refine cE_list_last ?_
    refine lE_val (v := (.int .i64 (xs.length : Nat))) (x_move (v := (.int .i64 (xs.length : Nat))) rfl) rfl (by decide) rfl ?_
    refine lE_val (v := (.int .i64 (xs.length + 1 : Nat))) (x_add (r := ((xs.length + 1 : Nat) : Int)) rfl rfl (by omega) (by omega) (by omega)) rfl (by decide) rfl ?_
    refine lE_val (v := (.int .i64 (xs.length + 1 : Nat))) (x_assign (v := (.int .i64 (xs.length + 1 : Nat))) rfl) rfl (by decide) rfl ?_
    refine lE_nil ?_
    have kb : Keep (GotT wa w0.heap.size) wa wb := keepRowT o2a (Nat.le_refl _) (.inr rfl) k2
    have p1b := row_row o2a p1 (by decide) k2
    refine ⟨(restOf rest).length, by have := restOf_lt hne; omega, xs ++ [dropCRl (lineOf rest)], restOf rest, ob2, u1, u2, rfl, rfl, rfl, rfl, ?_, ?_, ?_, ?_, ?_, ?_, ownR_fresh hown hf2 hK.size, rfl⟩
    · rw [List.length_append, List.length_singleton]; rfl
    · rw [hl, linesOf_cons hne]; simp
    · rw [List.length_append, List.length_singleton]; exact hrda.kept kb h7
    · rw [List.length_append, List.length_singleton, numsV_succ]; exact p1b
    · rw [List.length_append, List.length_singleton, List.map_append]; exact p2
    · exact (hK2.trans' ka (fun k _ h => h.1)).trans' kb (fun k _ h => h.1)
  · subst hnil
    have hlx : linesOf s.data.toList = xs := by rw [hl, linesOf_nil, List.append_nil]
    have o1 := row_reader hrd hk2 o1' (.inl rfl)
    have o2 := row_reader hrd hk2 o2' (.inr rfl)
    have hK2 : Keep (fun k => w0.heap.size ≤ k) w0 w2 := hK.trans' hk2 (fun k _ => hown k)
    rw [hr]; refine ⟨_, rfl, ?_⟩
    refine lE_val (v := (.tuple #[(.int .i64 0), (.string ⟨#[]⟩), (.bool false)])) (x_move (v := (.tuple #[(.int .i64 0), (.string ⟨#[]⟩), (.bool false)])) rfl) rfl (by decide) rfl ?_
    refine lE_val (v := (.int .i64 0)) (x_ext (v := (.int .i64 0)) rfl rfl) rfl (by decide) rfl ?_
    refine lE_val (v := (.string ⟨#[]⟩)) (x_ext (v := (.string ⟨#[]⟩)) rfl rfl) rfl (by decide) rfl ?_
    refine lE_val (v := (.bool false)) (x_ext (v := (.bool false)) rfl rfl) rfl (by decide) rfl ?_
    refine lE_val (v := (.int .i64 0)) (x_assign (v := (.int .i64 0)) rfl) rfl (by decide) rfl ?_
    refine lE_val (v := (.string ⟨#[]⟩)) (x_assign (v := (.string ⟨#[]⟩)) rfl) rfl (by decide) rfl ?_
    refine lE_val (v := (.bool false)) (x_assign (v := (.bool false)) rfl) rfl (by decide) rfl ?_
    refine lE_nil ?_
    refine cE_seq ?_
    refine cE_list ?_
    refine lE_val (v := (.bool false)) (x_move (v := (.bool false)) rfl) rfl (by decide) rfl ?_
    refine lE_val (v := (.bool true)) (x_not (b := false) rfl) rfl (by decide) rfl ?_
    refine lE_nil ?_
    refine cE_condT rfl ?_
    refine cE_list ?_
    refine lE_val (v := (.pointer (some ⟨lr, 0, none⟩))) (x_move (v := (.pointer (some ⟨lr, 0, none⟩))) rfl) rfl (by decide) rfl ?_
    refine lE_call (x_call1 Tryf.func20 (by kernel_rfl) (by kernel_rfl) rfl rfl) rfl (by decide) rfl ?_
    refine (next_calls hrd2 (by omega)).mono ?_
    rintro r w3 (⟨hne, _⟩ | ⟨_, hr, ob3, hrd3, hk3, hf3⟩)
    · exact absurd rfl hne
    have o1c := row_reader hrd2 hk3 o1 (.inl rfl)
    have o2c := row_reader hrd2 hk3 o2 (.inr rfl)
    have hK3 : Keep (fun k => w0.heap.size ≤ k) w0 w3 := hK2.trans' hk3 (fun k _ => ownR_fresh hown hf2 hK.size k)
    rw [hr]; refine ⟨_, rfl, ?_⟩
    refine lE_val (v := (.tuple #[(.int .i64 0), (.string ⟨#[]⟩), (.bool false)])) (x_move (v := (.tuple #[(.int .i64 0), (.string ⟨#[]⟩), (.bool false)])) rfl) rfl (by decide) rfl ?_
    refine lE_val (v := (.int .i64 0)) (x_ext (v := (.int .i64 0)) rfl rfl) rfl (by decide) rfl ?_
    refine lE_val (v := (.string ⟨#[]⟩)) (x_ext (v := (.string ⟨#[]⟩)) rfl rfl) rfl (by decide) rfl ?_
    refine lE_val (v := (.bool false)) (x_ext (v := (.bool false)) rfl rfl) rfl (by decide) rfl ?_
    refine lE_val (v := (.int .i64 0)) (x_assign (v := (.int .i64 0)) rfl) rfl (by decide) rfl ?_
    refine lE_val (v := (.string ⟨#[]⟩)) (x_assign (v := (.string ⟨#[]⟩)) rfl) rfl (by decide) rfl ?_
    refine lE_val (v := (.bool false)) (x_assign (v := (.bool false)) rfl) rfl (by decide) rfl ?_
    refine lE_nil ?_
    refine cE_list ?_
    refine lE_val (v := (.int .i64 0)) (x_move (v := (.int .i64 0)) rfl) rfl (by decide) rfl ?_
    refine lE_val (v := (.bool true)) (x_eql (m := 0) (n := 0) rfl rfl) rfl (by decide) rfl ?_
    refine lE_val (v := (.bool true)) (x_move (v := (.bool true)) rfl) rfl (by decide) rfl ?_
    refine lE_gval (v := (.string ⟨#[]⟩)) (x_move (v := (.string ⟨#[]⟩)) rfl) rfl (by decide) rfl rfl (by decide) rfl ?_
    refine lE_gval (v := (.bool true)) (x_eqSs rfl rfl) rfl (by decide) rfl rfl (by decide) rfl ?_
    refine lE_val (v := (.bool true)) (x_pickT (v := (.bool true)) rfl rfl) rfl (by decide) rfl ?_
    refine lE_val (v := (.bool true)) (x_move (v := (.bool true)) rfl) rfl (by decide) rfl ?_
    refine lE_gval (v := (.int .i64 0)) (x_move (v := (.int .i64 0)) rfl) rfl (by decide) rfl rfl (by decide) rfl ?_
    refine lE_gval (v := (.bool true)) (x_eql (m := 0) (n := 0) rfl rfl) rfl (by decide) rfl rfl (by decide) rfl ?_
    refine lE_val (v := (.bool true)) (x_pickT (v := (.bool true)) rfl rfl) rfl (by decide) rfl ?_
    refine lE_val (v := (.bool true)) (x_move (v := (.bool true)) rfl) rfl (by decide) rfl ?_
    refine lE_gval (v := (.string ⟨#[]⟩)) (x_move (v := (.string ⟨#[]⟩)) rfl) rfl (by decide) rfl rfl (by decide) rfl ?_
    refine lE_gval (v := (.bool true)) (x_eqSs rfl rfl) rfl (by decide) rfl rfl (by decide) rfl ?_
    refine lE_val (v := (.bool true)) (x_pickT (v := (.bool true)) rfl rfl) rfl (by decide) rfl ?_
    refine lE_val (v := (.bool true)) (x_move (v := (.bool true)) rfl) rfl (by decide) rfl ?_
    refine lE_gval (v := (.bool false)) (x_move (v := (.bool false)) rfl) rfl (by decide) rfl rfl (by decide) rfl ?_
    refine lE_gval (v := (.bool true)) (x_not (b := false) rfl) rfl (by decide) rfl rfl (by decide) rfl ?_
    refine lE_val (v := (.bool true)) (x_pickT (v := (.bool true)) rfl rfl) rfl (by decide) rfl ?_
    refine lE_val (v := (.bool true)) (x_move (v := (.bool true)) rfl) rfl (by decide) rfl ?_
    refine lE_gval (v := (.pointer (some ⟨lr, 0, none⟩))) (x_move (v := (.pointer (some ⟨lr, 0, none⟩))) rfl) rfl (by decide) rfl rfl (by decide) rfl ?_
    refine lE_gcall (v := .nilIface) (x_call1 Tryf.func21 (by kernel_rfl) (by kernel_rfl) rfl rfl) rfl (by decide) rfl rfl (by decide) rfl (rdErr_calls hrd3.hR) ?_
    refine lE_gval (v := (.bool true)) (x_eqnil rfl rfl) rfl (by decide) rfl rfl (by decide) rfl ?_
    refine lE_val (v := (.bool true)) (x_pickT (v := (.bool true)) rfl rfl) rfl (by decide) rfl ?_
    refine lE_val (v := (.bool true)) (x_assign (v := (.bool true)) rfl) rfl (by decide) rfl ?_
    refine lE_nil ?_
    refine cE_list ?_
    refine lE_val (v := v1) (x_move (v := v1) rfl) rfl (by decide) rfl ?_
    refine lE_val (v := v2) (x_move (v := v2) rfl) rfl (by decide) rfl ?_
    refine lE_val (v := (.bool true)) (x_move (v := (.bool true)) rfl) rfl (by decide) rfl ?_
    refine lE_val (v := v1) (x_assign (v := v1) rfl) rfl (by decide) rfl ?_
    refine lE_val (v := v2) (x_assign (v := v2) rfl) rfl (by decide) rfl ?_
    refine lE_val (v := (.bool true)) (x_assign (v := (.bool true)) rfl) rfl (by decide) rfl ?_
    refine lE_nil ?_
    refine cE_ret ?_
    refine hend _ _ v1 v2 rfl rfl rfl ?_ ?_ hK3
    · rw [hlx]; exact o1c
    · rw [hlx]; exact o2c

set_option maxHeartbeats 1000000 in
theorem readAll_calls {w : World} {ea ta : Addr} {s : ByteArray} (hG : w.cell? ⟨4, 0, none⟩ = some (.iface 54 (.pointer (some ea)))) (hT : w.cell? ⟨0, 0, none⟩ = some (.iface 54 (.pointer (some ta)))) (hsz : s.size ≤ 65536) (h7 : 7 ≤ w.heap.size) :
    Calls Tryf.prog 9 #[.string s] w fun r w' => ∃ v1 v2, r = .returned (.tuple #[v1, v2, .bool true]) ∧ w'.ownsRow w.heap.size 3 1 v1 (linesOf s.data.toList).length (numsV (linesOf s.data.toList).length) ∧
      w'.ownsRow w.heap.size 9 1 v2 (linesOf s.data.toList).length ((linesOf s.data.toList).map strV) ∧ Keep (fun _ => False) w w' := by
  refine calls_E Tryf.func9 rfl Tryf.ntmps9 (by simp) (env1 _) _ (res3 Tryf.results9) ?_
  refine cE_list ?_
  refine lE_val (v := (.slice none 0 0)) (x_assign (v := (.slice none 0 0)) rfl) rfl (by decide) rfl ?_
  refine lE_val (v := (.slice none 0 0)) (x_assign (v := (.slice none 0 0)) rfl) rfl (by decide) rfl ?_
  refine lE_val (v := (.bool false)) (x_assign (v := (.bool false)) rfl) rfl (by decide) rfl ?_
  refine lE_nil ?_
  refine cE_list ?_
  refine lE_val (v := (.string s)) (x_move (v := (.string s)) rfl) rfl (by decide) rfl ?_
  refine lE_call (x_call1 Tryf.func19 (by kernel_rfl) (by kernel_rfl) rfl rfl) rfl (by decide) rfl ?_
  refine (newRdStr_calls hG hT hsz h7).mono ?_
  rintro r w1 ⟨lr, sc, sr, hr, hrd1, hk1, hown1⟩
  rw [hr]; refine ⟨_, rfl, ?_⟩
  refine lE_val (v := (.pointer (some ⟨lr, 0, none⟩))) (x_assign (v := (.pointer (some ⟨lr, 0, none⟩))) rfl) rfl (by decide) rfl ?_
  refine lE_nil ?_
  refine cE_list ?_
  refine lE_val (v := (.slice none 0 0)) (x_assign (v := (.slice none 0 0)) rfl) rfl (by decide) rfl ?_
  refine lE_nil ?_
  refine cE_list ?_
  refine lE_val (v := (.slice none 0 0)) (x_assign (v := (.slice none 0 0)) rfl) rfl (by decide) rfl ?_
  refine lE_nil ?_
  refine cE_seq ?_
  refine cE_list ?_
  refine lE_val (v := (.int .i64 0)) (x_assign (v := (.int .i64 0)) rfl) rfl (by decide) rfl ?_
  refine lE_nil ?_
  refine ra_loop (w0 := w) rfl hsz h7 ⟨[], s.data.toList, none, .slice none 0 0, .slice none 0 0, rfl, rfl, rfl, rfl, rfl, rfl, hrd1, World.ownsRow_nil _ _ _ _, World.ownsRow_nil _ _ _ _, hk1.mono (fun k _ h => h.elim), hown1, rfl⟩ ?_
  intro E' w' v1 v2 h2 h3 h4 o1 o2 hK
  refine ⟨.inr rfl, v1, v2, ?_, o1, o2, hK.mono fun k hk h => absurd h (by omega)⟩
  show Ending.returned (.tuple #[E' 2, E' 3, E' 4]) = _
  rw [h2, h3, h4]
end Go.Proofs.Qxb6613145aFmt
