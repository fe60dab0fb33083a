import Derived.Test.Qxb6613145aFmtMake
import Derived.Deep.AppendLies
namespace Go.Proofs.Qxb6613145aFmt
open Go.RowKit
set_option maxRecDepth 100000
section
variable {ρ : Operand → Value} {dst : Option Tmp} {ty : TypeId} {pos : String} {after : Array Edge} {g : Option (Nat × Bool)} {w : World}
theorem x_bs25 {x : Operand} {n : Int} (h : ρ x = .int .i64 n) : (execOp ρ ⟨dst, .buildSlice 25 1 #[(0, x)], ty, pos, after, g⟩).run Tryf.prog w = .ok (.value (.slice (some ⟨w.heap.size, 0, none⟩) 1 1)) (w.alloc (.cells #[.int .i64 n] 3)) := by
  simp [go_sem, h]
theorem x_bs23 {x : Operand} {s : ByteArray} (h : ρ x = .string s) : (execOp ρ ⟨dst, .buildSlice 23 1 #[(0, x)], ty, pos, after, g⟩).run Tryf.prog w = .ok (.value (.slice (some ⟨w.heap.size, 0, none⟩) 1 1)) (w.alloc (.cells #[.string s] 9)) := by
  simp [go_sem, h]
theorem x_append25 {x y : Operand} {v : Value} {base n : Nat} {xs : List Value} {u : Value} {b : Nat} (h : ρ x = v) (h' : ρ y = .slice (some ⟨b, 0, none⟩) 1 1) (hown : w.ownsRow base 3 1 v n xs) (hb : Blk w b #[u] 3) (h1 : u.oneCell' = true) (hn : n ≤ 1000000) (hbase : base ≤ w.heap.size) :
    ∃ v' w', (execOp ρ ⟨dst, .call { callee := .builtin .append, args := #[x, y], argTypes := #[25, 25] }, ty, pos, after, g⟩).run Tryf.prog w = .ok (.value v') w' ∧ w'.ownsRow base 3 1 v' (n + 1) (xs ++ [u]) ∧ Keep (fun k => v.ownBlock = some k) w w' := by
  obtain ⟨v', w', hr, ho, hg, _⟩ := run_append_own (P := Tryf.prog) w base 25 ty 3 Tryf.t3 (.int .i64 0) 1 8 Tryf.underlying25 (by kernel_rfl) (by kernel_rfl) (by kernel_rfl) (by kernel_rfl) rfl (by decide) v n xs hown ⟨b, 0, none⟩ 1 1 [u] rfl
    (World.news_of_block (cs := #[u]) hb) (fun x hx => by simp at hx; subst hx; exact h1) (by unfold maxLen; omega) (by omega) hbase
  refine ⟨v', w', ?_, ho, ⟨hg.os, hg.tape, hg.output, hg.size, fun k hk hs => hg.block k hk (fun e => hs e.symm)⟩⟩
  simp only [BigFrame.execOp_builtin, BigFrame.builtin_append]
  simp [h, h', hr]
theorem x_append23 {x y : Operand} {v : Value} {base n : Nat} {xs : List Value} {u : Value} {b : Nat} (h : ρ x = v) (h' : ρ y = .slice (some ⟨b, 0, none⟩) 1 1) (hown : w.ownsRow base 9 1 v n xs) (hb : Blk w b #[u] 9) (h1 : u.oneCell' = true) (hn : n ≤ 1000000) (hbase : base ≤ w.heap.size) :
    ∃ v' w', (execOp ρ ⟨dst, .call { callee := .builtin .append, args := #[x, y], argTypes := #[23, 23] }, ty, pos, after, g⟩).run Tryf.prog w = .ok (.value v') w' ∧ w'.ownsRow base 9 1 v' (n + 1) (xs ++ [u]) ∧ Keep (fun k => v.ownBlock = some k) w w' := by
  obtain ⟨v', w', hr, ho, hg, _⟩ := run_append_own (P := Tryf.prog) w base 23 ty 9 Tryf.t9 (.string .empty) 1 16 Tryf.underlying23 (by kernel_rfl) (by kernel_rfl) (by kernel_rfl) (by kernel_rfl) rfl (by decide) v n xs hown ⟨b, 0, none⟩ 1 1 [u] rfl
    (World.news_of_block (cs := #[u]) hb) (fun x hx => by simp at hx; subst hx; exact h1) (by unfold maxLen; omega) (by omega) hbase
  refine ⟨v', w', ?_, ho, ⟨hg.os, hg.tape, hg.output, hg.size, fun k hk hs => hg.block k hk (fun e => hs e.symm)⟩⟩
  simp only [BigFrame.execOp_builtin, BigFrame.builtin_append]
  simp [h, h', hr]
end

section
variable {N d base n b : Nat} {ops : Array Oper} {Post : Env → World → Prop} {rest : List Oper} {E : Env} {w : World} {x y : Operand} {v u : Value} {xs : List Value} {ty : TypeId} {pos : String} {after : Array Edge}
theorem lE_append25 (h : evE E x = v) (h' : evE E y = .slice (some ⟨b, 0, none⟩) 1 1) (hown : w.ownsRow base 3 1 v n xs) (hb : Blk w b #[u] 3) (h1 : u.oneCell' = true) (hn : n ≤ 1000000) (hbase : base ≤ w.heap.size) (hd : d < N)
    (hk : ∀ v' w', w'.ownsRow base 3 1 v' (n + 1) (xs ++ [u]) → Keep (fun k => v.ownBlock = some k) w w' → lE Tryf.prog N ops Post rest (upd E d v') w') :
    lE Tryf.prog N ops Post (⟨some d, .call { callee := .builtin .append, args := #[x, y], argTypes := #[25, 25] }, ty, pos, after, none⟩ :: rest) E w := by
  obtain ⟨v', w', hr, ho, hg⟩ := x_append25 (ρ := evE E) (dst := some d) (ty := ty) (pos := pos) (after := after) (g := none) h h' hown hb h1 hn hbase
  exact lE_val hr rfl hd rfl (hk v' w' ho hg)
theorem lE_append23 (h : evE E x = v) (h' : evE E y = .slice (some ⟨b, 0, none⟩) 1 1) (hown : w.ownsRow base 9 1 v n xs) (hb : Blk w b #[u] 9) (h1 : u.oneCell' = true) (hn : n ≤ 1000000) (hbase : base ≤ w.heap.size) (hd : d < N)
    (hk : ∀ v' w', w'.ownsRow base 9 1 v' (n + 1) (xs ++ [u]) → Keep (fun k => v.ownBlock = some k) w w' → lE Tryf.prog N ops Post rest (upd E d v') w') :
    lE Tryf.prog N ops Post (⟨some d, .call { callee := .builtin .append, args := #[x, y], argTypes := #[23, 23] }, ty, pos, after, none⟩ :: rest) E w := by
  obtain ⟨v', w', hr, ho, hg⟩ := x_append23 (ρ := evE E) (dst := some d) (ty := ty) (pos := pos) (after := after) (g := none) h h' hown hb h1 hn hbase
  exact lE_val hr rfl hd rfl (hk v' w' ho hg)
end

theorem env6 (v0 v1 v2 v3 v4 v5 : Value) (t : Nat) : upd (upd (upd (upd (upd (upd env0 0 v0) 1 v1) 2 v2) 3 v3) 4 v4) 5 v5 t = (#[v0, v1, v2, v3, v4, v5] : Array Value).getD t undef := by
  rcases t with _ | _ | _ | _ | _ | _ | t
  · rfl
  · rfl
  · rfl
  · rfl
  · rfl
  · rfl
  · rw [upd_ne _ _ _ _ (by omega), upd_ne _ _ _ _ (by omega), upd_ne _ _ _ _ (by omega), upd_ne _ _ _ _ (by omega), upd_ne _ _ _ _ (by omega), upd_ne _ _ _ _ (by omega)]; simp [env0]

/-! ### What the callback has gathered -/
def strV (l : List UInt8) : Value := .string (strB l)
def numsV (n : Nat) : List Value := (List.range n).map fun i => .int .i64 (i + 1 : Nat)

theorem ownsRow_kept {w w' : World} {base : Nat} {e : TypeId} {v : Value} {n : Nat} {xs : List Value} (h : w.ownsRow base e 1 v n xs) (hk : ∀ g, v.ownBlock = some g → w'.heap[g]? = w.heap[g]?) : w'.ownsRow base e 1 v n xs := by
  obtain ⟨h1, h2⟩ := h
  refine ⟨h1, ?_⟩
  rcases h2 with h2 | ⟨g, cap, cur, hv, hg, hh, r⟩
  · exact .inl h2
  · exact .inr ⟨g, cap, cur, hv, hg, by rw [hk g (by rw [hv]; rfl)]; exact hh, r⟩
theorem ownsRow_block {w : World} {base : Nat} {e : TypeId} {v : Value} {n : Nat} {xs : List Value} (h : w.ownsRow base e 1 v n xs) {g : Nat} (hg : v.ownBlock = some g) : base ≤ g ∧ ∃ cs, Blk w g cs e := by
  obtain ⟨_, h2⟩ := h
  rcases h2 with ⟨h2, _⟩ | ⟨g', cap, cur, hv, hg', hh, r⟩
  · rw [h2] at hg; cases hg
  · rw [hv] at hg; cases hg; exact ⟨hg', cur, hh⟩

structure Got (w : World) (B0 g1 g2 g3 g4 base sb : Nat) (stx : ByteArray) (kk : Int) (xs : List (List UInt8)) : Prop where
  rows : ∃ v1 v2, Blk w g1 #[v1] 25 ∧ w.ownsRow base 3 1 v1 xs.length (numsV xs.length) ∧ Blk w g2 #[v2] 23 ∧ w.ownsRow base 9 1 v2 xs.length (xs.map strV)
  hk : Blk w g3 #[.int .i64 kk] 3
  hs : Blk w g4 #[.iface 54 (.pointer (some ⟨sb, 0, none⟩))] 32
  ht : Blk w sb #[.string stx] 56
  lo : B0 ≤ g1 ∧ B0 ≤ g2 ∧ B0 ≤ base
  hi : g3 < base ∧ base ≤ w.heap.size

/-- What the callback may turn. -/
def GotT (w : World) (B0 : Nat) (k : Nat) : Prop := B0 ≤ k ∧ ∃ cs ty, Blk w k cs ty ∧ (ty = 25 ∨ ty = 23 ∨ ty = 3 ∨ ty = 9)
/-- What the reader may turn. -/
theorem Rd.types {w : World} {lr sc sr : Nat} {ea ta : Addr} {s : ByteArray} {rest : List UInt8} {ob : Option Nat} {n : Nat} (h : Rd w lr sc sr ea ta s rest ob n) {k : Nat} (hk : OwnR lr sc sr ob k) : ∃ cs ty, Blk w k cs ty ∧ (ty = 48 ∨ ty = 67 ∨ ty = 60 ∨ ty = 5) := by
  obtain ⟨L, bs, st, en, i, pr, err, tok, cl, hst⟩ := h.st
  rcases hk with e | e | e | e
  · subst e; exact ⟨_, 48, h.hR, .inl rfl⟩
  · subst e; exact ⟨_, 67, hst.hB, .inr (.inl rfl)⟩
  · subst e; exact ⟨_, 60, hst.hR, .inr (.inr (.inl rfl))⟩
  · exact ⟨_, 5, hst.hF k e, .inr (.inr (.inr rfl))⟩
theorem Blk.ty {w : World} {b : Nat} {cs ds : Array Value} {t u : TypeId} (h : Blk w b cs t) (h' : Blk w b ds u) : t = u := by
  unfold Blk at h h'
  rw [h] at h'
  injection h' with h'
  injection h'

theorem Got.kept {w w' : World} {B0 g1 g2 g3 g4 base sb : Nat} {stx : ByteArray} {kk : Int} {xs : List (List UInt8)} (h : Got w B0 g1 g2 g3 g4 base sb stx kk xs) {S : Nat → Prop} (hK : Keep S w w')
    (hS : ∀ k, S k → ∃ cs ty, Blk w k cs ty ∧ (ty = 48 ∨ ty = 67 ∨ ty = 60 ∨ ty = 5)) : Got w' B0 g1 g2 g3 g4 base sb stx kk xs := by
  have key : ∀ {b : Nat} {cs : Array Value} {t : TypeId}, Blk w b cs t → (t = 25 ∨ t = 23 ∨ t = 3 ∨ t = 9 ∨ t = 32 ∨ t = 56) → ¬ S b := by
    intro b cs t hb ht hs
    obtain ⟨cs', ty, hb', hty⟩ := hS b hs
    have := hb.ty hb'
    subst this
    rcases ht with h | h | h | h | h | h <;> rcases hty with h' | h' | h' | h' <;> rw [h] at h' <;> cases h'
  obtain ⟨v1, v2, b1, o1, b2, o2⟩ := h.rows
  exact { rows := ⟨v1, v2, hK.blk b1 (key b1 (by simp)), ownsRow_kept o1 (fun g hg => by obtain ⟨_, cs, hb⟩ := ownsRow_block o1 hg; exact hK.block g hb.lt (key hb (by simp))), hK.blk b2 (key b2 (by simp)),
            ownsRow_kept o2 (fun g hg => by obtain ⟨_, cs, hb⟩ := ownsRow_block o2 hg; exact hK.block g hb.lt (key hb (by simp)))⟩,
          hk := hK.blk h.hk (key h.hk (by simp)), hs := hK.blk h.hs (key h.hs (by simp)), ht := hK.blk h.ht (key h.ht (by simp)), lo := h.lo, hi := ⟨h.hi.1, Nat.le_trans h.hi.2 hK.size⟩ }
theorem Rd.kept {w w' : World} {lr sc sr : Nat} {ea ta : Addr} {s : ByteArray} {rest : List UInt8} {ob : Option Nat} {n : Nat} (h : Rd w lr sc sr ea ta s rest ob n) {B0 : Nat} (hK : Keep (GotT w B0) w w') (hB : 7 ≤ B0) : Rd w' lr sc sr ea ta s rest ob n := by
  have key : ∀ k, OwnR lr sc sr ob k → ¬ GotT w B0 k := by
    rintro k hk ⟨_, cs, ty, hb, hty⟩
    obtain ⟨cs', ty', hb', hty'⟩ := h.types hk
    have := hb.ty hb'
    subst this
    rcases hty with h | h | h | h <;> rcases hty' with h' | h' | h' | h' <;> rw [h] at h' <;> cases h'
  have low : ∀ k, k < 7 → ¬ GotT w B0 k := by
    rintro k hk ⟨h1, _⟩
    omega
  obtain ⟨L, bs, st, en, i, pr, err, tok, cl, hst⟩ := h.st
  exact { hR := hK.blk h.hR (key _ (.inl rfl)), st := ⟨L, bs, st, en, i, pr, err, tok, cl, hst.kept hK (fun k hk => key k (.inr hk)) (low 4 (by omega))⟩, hT := hK.cell h.hT (low 0 (by omega)), lo := h.lo }

theorem numsV_succ (n : Nat) : numsV (n + 1) = numsV n ++ [.int .i64 (n + 1 : Nat)] := by simp [numsV, List.range_succ]

theorem one_of_row {w : World} {base : Nat} {e : TypeId} {v : Value} {n : Nat} {xs : List Value} (h : w.ownsRow base e 1 v n xs) : v.oneCell' = true := by
  obtain ⟨_, h2⟩ := h
  rcases h2 with ⟨h2, _⟩ | ⟨g', cap, cur, hv, _⟩
  · rw [h2]; rfl
  · rw [hv]; rfl

/-- One append to the row of a captured variable, and the store of what it gave. -/
theorem step_keep {w wa : World} {B0 g1 g2 g3 g4 base sb : Nat} {stx : ByteArray} {kk : Int} {xs : List (List UInt8)} (h : Got w B0 g1 g2 g3 g4 base sb stx kk xs) {g : Nat} {v : Value} {t e : TypeId} {n : Nat} {ys : List Value} {o : Obj}
    (hb : Blk w g #[v] t) (ho : w.ownsRow base e 1 v n ys) (hk : Keep (fun k => v.ownBlock = some k) (w.alloc o) wa) (hg : B0 ≤ g) (ht : t = 25 ∨ t = 23 ∨ t = 3 ∨ t = 9) (he : e = 25 ∨ e = 23 ∨ e = 3 ∨ e = 9) (u : Value) :
    Keep (GotT w B0) w (wa.setCell ⟨g, 0, none⟩ u) := by
  have m1 : Keep (GotT w B0) (w.alloc o) wa := hk.mono fun k _ hk => by
    obtain ⟨hge, cs, hb'⟩ := ownsRow_block ho hk
    exact ⟨Nat.le_trans h.lo.2.2 hge, cs, e, hb', he⟩
  exact (((Keep.refl _ w).alloc _).trans m1).setCell ⟨hg, _, t, hb, ht⟩ _
theorem Keep.trans' {S S' : Nat → Prop} {a b c : World} (h : Keep S a b) (k : Keep S' b c) (hs : ∀ i, i < a.heap.size → S' i → S i) : Keep S a c :=
  ⟨k.os.trans h.os, k.tape.trans h.tape, k.output.trans h.output, Nat.le_trans h.size k.size, fun i hi hn => (k.block i (Nat.lt_of_lt_of_le hi h.size) (fun h' => hn (hs i hi h'))).trans (h.block i hi hn)⟩
/-- Two such steps. -/
theorem gotT_trans {w wb wd : World} {B0 : Nat} (ka : Keep (GotT w B0) w wb) (kd : Keep (GotT wb B0) wb wd) : Keep (GotT w B0) w wd := by
  refine ka.trans' kd ?_
  rintro k hlt ⟨hge, cs, ty, hb', hty⟩
  by_cases hS : GotT w B0 k
  · exact hS
  · rw [Blk, ka.block k hlt hS] at hb'
    exact ⟨hge, cs, ty, hb', hty⟩

theorem callback15 {w : World} {B0 g1 g2 g3 g4 base sb : Nat} {stx : ByteArray} {kk : Int} {xs : List (List UInt8)} (h : Got w B0 g1 g2 g3 g4 base sb stx kk xs) (line : List UInt8) (hn : xs.length ≤ 1000000) :
    Calls Tryf.prog 15 #[(.int .i64 (xs.length + 1 : Nat)), (.string (strB line)), (.pointer (some ⟨g1, 0, none⟩)), (.pointer (some ⟨g2, 0, none⟩)), (.pointer (some ⟨g3, 0, none⟩)), (.pointer (some ⟨g4, 0, none⟩))] w fun r w' => Got w' B0 g1 g2 g3 g4 base sb stx kk (xs ++ [line]) ∧ Keep (GotT w B0) w w' ∧
      ((kk = (xs.length + 1 : Nat) ∧ r = .returned (.iface 54 (.pointer (some ⟨sb, 0, none⟩)))) ∨ (kk ≠ (xs.length + 1 : Nat) ∧ r = .returned .nilIface)) := by
  obtain ⟨v1, v2, b1, o1, b2, o2⟩ := h.rows
  refine calls_E Tryf.func15 rfl Tryf.ntmps15 (by simp) (env6 _ _ _ _ _ _) _ (res1 Tryf.results15) ?_
  refine cE_list ?_
  refine lE_val (v := .nilIface) (x_assign (v := .nilIface) rfl) rfl (by decide) rfl ?_
  refine lE_nil ?_
  refine cE_list ?_
  refine lE_val (v := v1) (x_loadB (Tryf.isAgg25 _) rfl b1 rfl) rfl (by decide) rfl ?_
  refine lE_val (v := (.int .i64 (xs.length + 1 : Nat))) (x_move (v := (.int .i64 (xs.length + 1 : Nat))) rfl) rfl (by decide) rfl ?_
  refine lE_val (v := (.slice (some ⟨w.heap.size, 0, none⟩) 1 1)) (x_bs25 rfl) rfl (by decide) rfl ?_
  refine lE_append25 rfl rfl (o1.alloc _) (Blk.alloc_new w _ _) rfl hn ?_ (by decide) ?_
  · simp; exact Nat.le_succ_of_le h.hi.2
  intro u1 wa p1 k1
  have one1 := one_of_row p1
  have b1a : Blk wa g1 #[v1] 25 := k1.blk (b1.alloc _) (fun e => by obtain ⟨_, cs, hb⟩ := ownsRow_block o1 e; exact absurd (hb.ty b1) (by decide))
  refine lE_skip (x_storeB (v := u1) (Tryf.sizeOf25 _) rfl rfl one1 b1a rfl) rfl rfl ?_
  refine lE_nil ?_
  refine cE_list ?_
  generalize hwb : wa.setCell ⟨g1, 0, none⟩ u1 = wb
  have ka : Keep (GotT w B0) w wb := by rw [← hwb]; exact step_keep h b1 o1 k1 h.lo.1 (.inl rfl) (.inr (.inr (.inl rfl))) u1
  have b1b : Blk wb g1 #[u1] 25 := by rw [← hwb]; exact b1a.setCell 0 _
  have p1b : wb.ownsRow base 3 1 u1 (xs.length + 1) (numsV xs.length ++ [(.int .i64 (xs.length + 1 : Nat))]) := by rw [← hwb]; exact ownsRow_kept p1 (fun g hg => by obtain ⟨_, cs, hb⟩ := ownsRow_block p1 hg; exact Below.heap_setCell _ _ _ _ (fun e => by have e : g = g1 := e; subst e; exact absurd (hb.ty b1a) (by decide)))
  have b2b : Blk wb g2 #[v2] 23 := by rw [← hwb]; exact (k1.blk (b2.alloc _) (fun e => by obtain ⟨_, cs, hb⟩ := ownsRow_block o1 e; exact absurd (hb.ty b2) (by decide))).setCell_ne (fun e => by subst e; exact absurd (b2.ty b1) (by decide)) 0 _
  have o2b : wb.ownsRow base 9 1 v2 xs.length (xs.map strV) := by
    rw [← hwb]
    refine ownsRow_kept o2 (fun g hg => ?_)
    obtain ⟨_, cs, hb⟩ := ownsRow_block o2 hg
    rw [Below.heap_setCell _ _ _ _ (fun e => by have e : g = g1 := e; subst e; exact absurd (hb.ty b1) (by decide))]
    rw [k1.block g (Nat.lt_of_lt_of_le hb.lt (by simp)) (fun e => by obtain ⟨_, cs', hb'⟩ := ownsRow_block o1 e; exact absurd (hb.ty hb') (by decide))]
    exact Below.heap_alloc _ _ _ hb.lt
  have b3b : Blk wb g3 #[.int .i64 kk] 3 := by rw [← hwb]; exact (k1.blk (h.hk.alloc _) (fun e => by have := (ownsRow_block o1 e).1; have := h.hi.1; omega)).setCell_ne (fun e => by subst e; exact absurd (h.hk.ty b1) (by decide)) 0 _
  have b4b : Blk wb g4 #[.iface 54 (.pointer (some ⟨sb, 0, none⟩))] 32 := by rw [← hwb]; exact (k1.blk (h.hs.alloc _) (fun e => by obtain ⟨_, cs, hb⟩ := ownsRow_block o1 e; exact absurd (hb.ty h.hs) (by decide))).setCell_ne (fun e => by subst e; exact absurd (h.hs.ty b1) (by decide)) 0 _
  have b5b : Blk wb sb #[.string stx] 56 := by rw [← hwb]; exact (k1.blk (h.ht.alloc _) (fun e => by obtain ⟨_, cs, hb⟩ := ownsRow_block o1 e; exact absurd (hb.ty h.ht) (by decide))).setCell_ne (fun e => by subst e; exact absurd (h.ht.ty b1) (by decide)) 0 _
  have hzb : base ≤ wb.heap.size := Nat.le_trans h.hi.2 ka.size
  refine lE_val (v := v2) (x_loadB (Tryf.isAgg23 _) rfl b2b rfl) rfl (by decide) rfl ?_
  refine lE_val (v := (.string (strB line))) (x_move (v := (.string (strB line))) rfl) rfl (by decide) rfl ?_
  refine lE_val (v := (.slice (some ⟨wb.heap.size, 0, none⟩) 1 1)) (x_bs23 rfl) rfl (by decide) rfl ?_
  refine lE_append23 rfl rfl (o2b.alloc _) (Blk.alloc_new wb _ _) rfl hn ?_ (by decide) ?_
  · simp; exact Nat.le_succ_of_le hzb
  intro u2 wc p2 k2
  have one2 := one_of_row p2
  have b2c : Blk wc g2 #[v2] 23 := k2.blk (b2b.alloc _) (fun e => by obtain ⟨_, cs, hb⟩ := ownsRow_block o2b e; exact absurd (hb.ty b2b) (by decide))
  refine lE_skip (x_storeB (v := u2) (Tryf.sizeOf23 _) rfl rfl one2 b2c rfl) rfl rfl ?_
  refine lE_nil ?_
  generalize hwd : wc.setCell ⟨g2, 0, none⟩ u2 = wd
  have kd0 : Keep (GotT wb B0) wb wd := by
    rw [← hwd]
    have m1 : Keep (GotT wb B0) (wb.alloc (.cells #[.string (strB line)] 9)) wc := k2.mono fun k _ hk => by obtain ⟨hge, cs, hb⟩ := ownsRow_block o2b hk; exact ⟨Nat.le_trans h.lo.2.2 hge, cs, 9, hb, .inr (.inr (.inr rfl))⟩
    exact (((Keep.refl _ wb).alloc _).trans m1).setCell ⟨h.lo.2.1, _, 23, b2b, .inr (.inl rfl)⟩ _
  have kd : Keep (GotT w B0) w wd := gotT_trans ka kd0
  have b2d : Blk wd g2 #[u2] 23 := by rw [← hwd]; exact b2c.setCell 0 _
  have p2d : wd.ownsRow base 9 1 u2 (xs.length + 1) (xs.map strV ++ [(.string (strB line))]) := by rw [← hwd]; exact ownsRow_kept p2 (fun g hg => by obtain ⟨_, cs, hb⟩ := ownsRow_block p2 hg; exact Below.heap_setCell _ _ _ _ (fun e => by have e : g = g2 := e; subst e; exact absurd (hb.ty b2c) (by decide)))
  have far : ∀ {b : Nat} {cs : Array Value} {t : TypeId}, Blk wb b cs t → t ≠ 9 → t ≠ 23 → wd.heap[b]? = wb.heap[b]? := by
    intro b cs t hb h9 h23
    rw [← hwd, Below.heap_setCell _ _ _ _ (fun e => by have e : b = g2 := e; subst e; exact h23 (hb.ty b2b))]
    rw [k2.block b (Nat.lt_of_lt_of_le hb.lt (by simp)) (fun e => by obtain ⟨_, cs', hb'⟩ := ownsRow_block o2b e; exact h9 (hb.ty hb'))]
    exact Below.heap_alloc _ _ _ hb.lt
  have hgot : Got wd B0 g1 g2 g3 g4 base sb stx kk (xs ++ [line]) :=
    { rows := ⟨u1, u2, b1b.of_eq (far b1b (by decide) (by decide)), by rw [List.length_append, List.length_singleton, numsV_succ]; exact ownsRow_kept p1b (fun g hg => by obtain ⟨_, cs, hb⟩ := ownsRow_block p1b hg; exact far hb (by decide) (by decide)), b2d, by rw [List.length_append, List.length_singleton, List.map_append]; exact p2d⟩,
      hk := b3b.of_eq (far b3b (by decide) (by decide)), hs := b4b.of_eq (far b4b (by decide) (by decide)), ht := b5b.of_eq (far b5b (by decide) (by decide)), lo := h.lo, hi := ⟨h.hi.1, Nat.le_trans hzb kd0.size⟩ }
  have b3d := hgot.hk
  have b4d := hgot.hs
  refine cE_seq ?_
  refine cE_list ?_
  by_cases hkk : kk = (xs.length + 1 : Nat)
  · have he : (((xs.length + 1 : Nat) : Int) == kk) = true := by rw [beq_iff_eq, hkk]
    refine lE_val (v := (.int .i64 (xs.length + 1 : Nat))) (x_move (v := (.int .i64 (xs.length + 1 : Nat))) rfl) rfl (by decide) rfl ?_
    refine lE_val (v := (.int .i64 kk)) (x_loadB (Tryf.isAgg3 _) rfl b3d rfl) rfl (by decide) rfl ?_
    refine lE_val (v := (.bool true)) (by rw [← he]; exact x_eql rfl rfl) rfl (by decide) rfl ?_
    refine lE_nil ?_
    refine cE_condT rfl ?_
    refine cE_list ?_
    refine lE_val (v := (.iface 54 (.pointer (some ⟨sb, 0, none⟩)))) (x_loadB (Tryf.isAgg32 _) rfl b4d rfl) rfl (by decide) rfl ?_
    refine lE_val (v := (.iface 54 (.pointer (some ⟨sb, 0, none⟩)))) (x_assign (v := (.iface 54 (.pointer (some ⟨sb, 0, none⟩)))) rfl) rfl (by decide) rfl ?_
    refine lE_nil ?_
    exact cE_retE1 ⟨hgot, kd, .inl ⟨hkk, rfl⟩⟩
  · have he : (((xs.length + 1 : Nat) : Int) == kk) = false := by rw [beq_eq_false_iff_ne]; exact fun e => hkk e.symm
    refine lE_val (v := (.int .i64 (xs.length + 1 : Nat))) (x_move (v := (.int .i64 (xs.length + 1 : Nat))) rfl) rfl (by decide) rfl ?_
    refine lE_val (v := (.int .i64 kk)) (x_loadB (Tryf.isAgg3 _) rfl b3d rfl) rfl (by decide) rfl ?_
    refine lE_val (v := (.bool false)) (by rw [← he]; exact x_eql rfl rfl) rfl (by decide) rfl ?_
    refine lE_nil ?_
    refine cE_condF rfl (cE_skipT ?_)
    refine cE_list ?_
    refine lE_val (v := .nilIface) (x_assign (v := .nilIface) rfl) rfl (by decide) rfl ?_
    refine lE_nil ?_
    exact cE_retE ⟨hgot, kd, .inr ⟨hkk, rfl⟩⟩

theorem callback17 {w : World} {B0 g1 g2 g3 g4 base sb : Nat} {stx : ByteArray} {kk : Int} {xs : List (List UInt8)} (h : Got w B0 g1 g2 g3 g4 base sb stx kk xs) (line : List UInt8) (hn : xs.length ≤ 1000000) :
    Calls Tryf.prog 17 #[(.int .i64 (xs.length + 1 : Nat)), (.string (strB line)), (.pointer (some ⟨g1, 0, none⟩)), (.pointer (some ⟨g2, 0, none⟩)), (.pointer (some ⟨g3, 0, none⟩)), (.pointer (some ⟨g4, 0, none⟩))] w fun r w' => Got w' B0 g1 g2 g3 g4 base sb stx kk (xs ++ [line]) ∧ Keep (GotT w B0) w w' ∧
      ((kk = (xs.length + 1 : Nat) ∧ r = .returned (.iface 54 (.pointer (some ⟨sb, 0, none⟩)))) ∨ (kk ≠ (xs.length + 1 : Nat) ∧ r = .returned .nilIface)) := by
  obtain ⟨v1, v2, b1, o1, b2, o2⟩ := h.rows
  refine calls_E Tryf.func17 rfl Tryf.ntmps17 (by simp) (env6 _ _ _ _ _ _) _ (res1 Tryf.results17) ?_
  refine cE_list ?_
  refine lE_val (v := .nilIface) (x_assign (v := .nilIface) rfl) rfl (by decide) rfl ?_
  refine lE_nil ?_
  refine cE_list ?_
  refine lE_val (v := v1) (x_loadB (Tryf.isAgg25 _) rfl b1 rfl) rfl (by decide) rfl ?_
  refine lE_val (v := (.int .i64 (xs.length + 1 : Nat))) (x_move (v := (.int .i64 (xs.length + 1 : Nat))) rfl) rfl (by decide) rfl ?_
  refine lE_val (v := (.slice (some ⟨w.heap.size, 0, none⟩) 1 1)) (x_bs25 rfl) rfl (by decide) rfl ?_
  refine lE_append25 rfl rfl (o1.alloc _) (Blk.alloc_new w _ _) rfl hn ?_ (by decide) ?_
  · simp; exact Nat.le_succ_of_le h.hi.2
  intro u1 wa p1 k1
  have one1 := one_of_row p1
  have b1a : Blk wa g1 #[v1] 25 := k1.blk (b1.alloc _) (fun e => by obtain ⟨_, cs, hb⟩ := ownsRow_block o1 e; exact absurd (hb.ty b1) (by decide))
  refine lE_skip (x_storeB (v := u1) (Tryf.sizeOf25 _) rfl rfl one1 b1a rfl) rfl rfl ?_
  refine lE_nil ?_
  refine cE_list ?_
  generalize hwb : wa.setCell ⟨g1, 0, none⟩ u1 = wb
  have ka : Keep (GotT w B0) w wb := by rw [← hwb]; exact step_keep h b1 o1 k1 h.lo.1 (.inl rfl) (.inr (.inr (.inl rfl))) u1
  have b1b : Blk wb g1 #[u1] 25 := by rw [← hwb]; exact b1a.setCell 0 _
  have p1b : wb.ownsRow base 3 1 u1 (xs.length + 1) (numsV xs.length ++ [(.int .i64 (xs.length + 1 : Nat))]) := by rw [← hwb]; exact ownsRow_kept p1 (fun g hg => by obtain ⟨_, cs, hb⟩ := ownsRow_block p1 hg; exact Below.heap_setCell _ _ _ _ (fun e => by have e : g = g1 := e; subst e; exact absurd (hb.ty b1a) (by decide)))
  have b2b : Blk wb g2 #[v2] 23 := by rw [← hwb]; exact (k1.blk (b2.alloc _) (fun e => by obtain ⟨_, cs, hb⟩ := ownsRow_block o1 e; exact absurd (hb.ty b2) (by decide))).setCell_ne (fun e => by subst e; exact absurd (b2.ty b1) (by decide)) 0 _
  have o2b : wb.ownsRow base 9 1 v2 xs.length (xs.map strV) := by
    rw [← hwb]
    refine ownsRow_kept o2 (fun g hg => ?_)
    obtain ⟨_, cs, hb⟩ := ownsRow_block o2 hg
    rw [Below.heap_setCell _ _ _ _ (fun e => by have e : g = g1 := e; subst e; exact absurd (hb.ty b1) (by decide))]
    rw [k1.block g (Nat.lt_of_lt_of_le hb.lt (by simp)) (fun e => by obtain ⟨_, cs', hb'⟩ := ownsRow_block o1 e; exact absurd (hb.ty hb') (by decide))]
    exact Below.heap_alloc _ _ _ hb.lt
  have b3b : Blk wb g3 #[.int .i64 kk] 3 := by rw [← hwb]; exact (k1.blk (h.hk.alloc _) (fun e => by have := (ownsRow_block o1 e).1; have := h.hi.1; omega)).setCell_ne (fun e => by subst e; exact absurd (h.hk.ty b1) (by decide)) 0 _
  have b4b : Blk wb g4 #[.iface 54 (.pointer (some ⟨sb, 0, none⟩))] 32 := by rw [← hwb]; exact (k1.blk (h.hs.alloc _) (fun e => by obtain ⟨_, cs, hb⟩ := ownsRow_block o1 e; exact absurd (hb.ty h.hs) (by decide))).setCell_ne (fun e => by subst e; exact absurd (h.hs.ty b1) (by decide)) 0 _
  have b5b : Blk wb sb #[.string stx] 56 := by rw [← hwb]; exact (k1.blk (h.ht.alloc _) (fun e => by obtain ⟨_, cs, hb⟩ := ownsRow_block o1 e; exact absurd (hb.ty h.ht) (by decide))).setCell_ne (fun e => by subst e; exact absurd (h.ht.ty b1) (by decide)) 0 _
  have hzb : base ≤ wb.heap.size := Nat.le_trans h.hi.2 ka.size
  refine lE_val (v := v2) (x_loadB (Tryf.isAgg23 _) rfl b2b rfl) rfl (by decide) rfl ?_
  refine lE_val (v := (.string (strB line))) (x_move (v := (.string (strB line))) rfl) rfl (by decide) rfl ?_
  refine lE_val (v := (.slice (some ⟨wb.heap.size, 0, none⟩) 1 1)) (x_bs23 rfl) rfl (by decide) rfl ?_
  refine lE_append23 rfl rfl (o2b.alloc _) (Blk.alloc_new wb _ _) rfl hn ?_ (by decide) ?_
  · simp; exact Nat.le_succ_of_le hzb
  intro u2 wc p2 k2
  have one2 := one_of_row p2
  have b2c : Blk wc g2 #[v2] 23 := k2.blk (b2b.alloc _) (fun e => by obtain ⟨_, cs, hb⟩ := ownsRow_block o2b e; exact absurd (hb.ty b2b) (by decide))
  refine lE_skip (x_storeB (v := u2) (Tryf.sizeOf23 _) rfl rfl one2 b2c rfl) rfl rfl ?_
  refine lE_nil ?_
  generalize hwd : wc.setCell ⟨g2, 0, none⟩ u2 = wd
  have kd0 : Keep (GotT wb B0) wb wd := by
    rw [← hwd]
    have m1 : Keep (GotT wb B0) (wb.alloc (.cells #[.string (strB line)] 9)) wc := k2.mono fun k _ hk => by obtain ⟨hge, cs, hb⟩ := ownsRow_block o2b hk; exact ⟨Nat.le_trans h.lo.2.2 hge, cs, 9, hb, .inr (.inr (.inr rfl))⟩
    exact (((Keep.refl _ wb).alloc _).trans m1).setCell ⟨h.lo.2.1, _, 23, b2b, .inr (.inl rfl)⟩ _
  have kd : Keep (GotT w B0) w wd := gotT_trans ka kd0
  have b2d : Blk wd g2 #[u2] 23 := by rw [← hwd]; exact b2c.setCell 0 _
  have p2d : wd.ownsRow base 9 1 u2 (xs.length + 1) (xs.map strV ++ [(.string (strB line))]) := by rw [← hwd]; exact ownsRow_kept p2 (fun g hg => by obtain ⟨_, cs, hb⟩ := ownsRow_block p2 hg; exact Below.heap_setCell _ _ _ _ (fun e => by have e : g = g2 := e; subst e; exact absurd (hb.ty b2c) (by decide)))
  have far : ∀ {b : Nat} {cs : Array Value} {t : TypeId}, Blk wb b cs t → t ≠ 9 → t ≠ 23 → wd.heap[b]? = wb.heap[b]? := by
    intro b cs t hb h9 h23
    rw [← hwd, Below.heap_setCell _ _ _ _ (fun e => by have e : b = g2 := e; subst e; exact h23 (hb.ty b2b))]
    rw [k2.block b (Nat.lt_of_lt_of_le hb.lt (by simp)) (fun e => by obtain ⟨_, cs', hb'⟩ := ownsRow_block o2b e; exact h9 (hb.ty hb'))]
    exact Below.heap_alloc _ _ _ hb.lt
  have hgot : Got wd B0 g1 g2 g3 g4 base sb stx kk (xs ++ [line]) :=
    { rows := ⟨u1, u2, b1b.of_eq (far b1b (by decide) (by decide)), by rw [List.length_append, List.length_singleton, numsV_succ]; exact ownsRow_kept p1b (fun g hg => by obtain ⟨_, cs, hb⟩ := ownsRow_block p1b hg; exact far hb (by decide) (by decide)), b2d, by rw [List.length_append, List.length_singleton, List.map_append]; exact p2d⟩,
      hk := b3b.of_eq (far b3b (by decide) (by decide)), hs := b4b.of_eq (far b4b (by decide) (by decide)), ht := b5b.of_eq (far b5b (by decide) (by decide)), lo := h.lo, hi := ⟨h.hi.1, Nat.le_trans hzb kd0.size⟩ }
  have b3d := hgot.hk
  have b4d := hgot.hs
  refine cE_seq ?_
  refine cE_list ?_
  by_cases hkk : kk = (xs.length + 1 : Nat)
  · have he : (((xs.length + 1 : Nat) : Int) == kk) = true := by rw [beq_iff_eq, hkk]
    refine lE_val (v := (.int .i64 (xs.length + 1 : Nat))) (x_move (v := (.int .i64 (xs.length + 1 : Nat))) rfl) rfl (by decide) rfl ?_
    refine lE_val (v := (.int .i64 kk)) (x_loadB (Tryf.isAgg3 _) rfl b3d rfl) rfl (by decide) rfl ?_
    refine lE_val (v := (.bool true)) (by rw [← he]; exact x_eql rfl rfl) rfl (by decide) rfl ?_
    refine lE_nil ?_
    refine cE_condT rfl ?_
    refine cE_list ?_
    refine lE_val (v := (.iface 54 (.pointer (some ⟨sb, 0, none⟩)))) (x_loadB (Tryf.isAgg32 _) rfl b4d rfl) rfl (by decide) rfl ?_
    refine lE_val (v := (.iface 54 (.pointer (some ⟨sb, 0, none⟩)))) (x_assign (v := (.iface 54 (.pointer (some ⟨sb, 0, none⟩)))) rfl) rfl (by decide) rfl ?_
    refine lE_nil ?_
    exact cE_retE1 ⟨hgot, kd, .inl ⟨hkk, rfl⟩⟩
  · have he : (((xs.length + 1 : Nat) : Int) == kk) = false := by rw [beq_eq_false_iff_ne]; exact fun e => hkk e.symm
    refine lE_val (v := (.int .i64 (xs.length + 1 : Nat))) (x_move (v := (.int .i64 (xs.length + 1 : Nat))) rfl) rfl (by decide) rfl ?_
    refine lE_val (v := (.int .i64 kk)) (x_loadB (Tryf.isAgg3 _) rfl b3d rfl) rfl (by decide) rfl ?_
    refine lE_val (v := (.bool false)) (by rw [← he]; exact x_eql rfl rfl) rfl (by decide) rfl ?_
    refine lE_nil ?_
    refine cE_condF rfl (cE_skipT ?_)
    refine cE_list ?_
    refine lE_val (v := .nilIface) (x_assign (v := .nilIface) rfl) rfl (by decide) rfl ?_
    refine lE_nil ?_
    exact cE_retE ⟨hgot, kd, .inr ⟨hkk, rfl⟩⟩

end Go.Proofs.Qxb6613145aFmt
