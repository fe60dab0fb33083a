/-
  A SMALL PROGRAM LOGIC OVER FRAMES THAT ARE FUNCTIONS ('Env'), for functions with great frames (bufio's Scan: 334 slots). Nothing of this program stands in it but the imports.
-/
import Derived.Test.Qxb6613145aFmtRows
import Derived.WalkKit
import Derived.WalkSpells
import Derived.WalkLawsBesides
import Derived.StillTail
import Derived.OrdersHeld
namespace Go.Proofs.Qxb6613145aFmt
open Go.RowKit

/-- The region with this number, out of a function's code. -/
def findRegion (n : Nat) : Code → Option (Array Oper × Bool)
  | .region id ops b => if id = n then some (ops, b) else none
  | .loop c => findRegion n c
  | .seq a b => match findRegion n a with
    | some c => some c
    | none => findRegion n b
  | .block _ c => findRegion n c
  | .scope c => findRegion n c
  | .cond _ a b => match findRegion n a with
    | some c => some c
    | none => findRegion n b
  | _ => none

/-- What each slot holds. -/
abbrev Env := Nat → Value
def upd (E : Env) (d : Nat) (v : Value) : Env := fun t => bif Nat.beq t d then v else E t
def evE (E : Env) : Operand → Value
  | .tmp t => E t
  | .const v => v
  | .global g => .pointer (some ⟨g, 0, none⟩)
  | .func f => .func (.func f) #[] #[]

structure Rep (n : Nat) (a : Act) (E : Env) : Prop where
  size : a.tmps.size = n
  ev : ∀ t, a.eval (.tmp t) = E t
  defers : a.defers = []

theorem upd_same (E : Env) (d : Nat) (v : Value) : upd E d v d = v := by simp [upd, Nat.beq_refl]
theorem upd_ne (E : Env) (d t : Nat) (v : Value) (h : t ≠ d) : upd E d v t = E t := by
  have : Nat.beq t d = false := by
    rw [Bool.eq_false_iff]
    intro hb
    exact h (Nat.eq_of_beq_eq_true hb)
  simp [upd, this]
theorem upd_self {E : Env} {d : Nat} {v : Value} (h : E d = v) : E = upd E d v := by
  funext t
  by_cases ht : t = d
  · subst ht; rw [upd_same, h]
  · rw [upd_ne _ _ _ _ ht]

theorem Rep.eval {n : Nat} {a : Act} {E : Env} (h : Rep n a E) : a.eval = evE E := by
  funext x
  cases x with
  | tmp t => exact h.ev t
  | const v => rfl
  | global g => rfl
  | func f => rfl

theorem Rep.put {n : Nat} {a : Act} {E : Env} (h : Rep n a E) {d : Nat} (hd : d < n) (v : Value) : Rep n (a.put (some d) v) (upd E d v) := by
  refine ⟨by simp [Act.put, h.size], fun t => ?_, h.defers⟩
  by_cases ht : t = d
  · subst ht
    rw [upd_same]
    simp [Act.eval, Act.put, h.size, hd]
  · rw [upd_ne _ _ _ _ ht, ← h.ev t]
    exact Act.eval_put (fun d' hd' e => by cases hd'; cases e; exact ht rfl)

theorem Rep.yielded {n : Nat} {a : Act} {E : Env} (h : Rep n a E) {ops : Array Oper} {j t : Nat} (hj : (ops[j]?).bind (·.dst) = some t) (ht : t < n) :
    yielded ops a.tmps j = match E t with | .bool b => some b | _ => none := by
  have h1 : a.tmps[t]? = some (E t) := by
    rw [← h.ev t]
    simp [Act.eval, h.size, ht]
  unfold Go.yielded
  rw [hj]
  simp only [Option.bind_some, h1]
  cases E t <;> rfl

/-! ### Lists of operations, the world as it goes -/
def QN (n : Nat) (Post : Env → World → Prop) : Exit → Act → World → Prop := fun e a w => e = .normal ∧ ∃ E, Rep n a E ∧ Post E w

section
variable {P : Program} {n : Nat} {ops : Array Oper} {Post : Env → World → Prop} {E : Env} {w : World} {rest : List Oper} {o : Oper}

def lE (P : Program) (n : Nat) (ops : Array Oper) (Post : Env → World → Prop) (l : List Oper) (E : Env) (w : World) : Prop :=
  ∀ a, Rep n a E → wpList P ops (QN n Post) l a w

theorem lE_nil (h : Post E w) : lE P n ops Post [] E w := fun _ ha => wpList_nil ⟨rfl, E, ha, h⟩

theorem lE_val {d : Nat} {v : Value} {w' : World} (hr : (execOp (evE E) o).run P w = .ok (.value v) w') (hd : o.dst = some d) (hn : d < n) (hg : o.guard = none)
    (h : lE P n ops Post rest (upd E d v) w') : lE P n ops Post (o :: rest) E w := fun a ha => wpList_plain hg fun K hK => by
  unfold Oper.wp
  rw [ha.eval, hr, Oper.upon_value, hd]
  exact hK _ _ (h _ (ha.put hn v))

theorem lE_skip {w' : World} (hr : (execOp (evE E) o).run P w = .ok .skip w') (hd : o.dst = none) (hg : o.guard = none)
    (h : lE P n ops Post rest E w') : lE P n ops Post (o :: rest) E w := fun a ha => wpList_plain hg fun K hK => by
  unfold Oper.wp
  rw [ha.eval, hr, Oper.upon_skip, hd]
  exact hK _ _ (h _ ha)

theorem lE_call {d : Nat} {f : FuncId} {args : Array Value} {w' : World} (hr : (execOp (evE E) o).run P w = .ok (.enter f args) w') (hd : o.dst = some d) (hn : d < n) (hg : o.guard = none)
    (h : Calls P f args w' fun e w'' => ∃ v, e = .returned v ∧ lE P n ops Post rest (upd E d v) w'') : lE P n ops Post (o :: rest) E w := fun a ha => wpList_plain hg fun K hK => by
  unfold Oper.wp
  rw [ha.eval, hr, Oper.upon_enter, hd]
  refine h.mono ?_
  rintro e w'' ⟨v, rfl, hv⟩
  exact hK _ _ (hv _ (ha.put hn v))

theorem lE_gval {d j t : Nat} {want : Bool} {v : Value} {w' : World} (hr : (execOp (evE E) o).run P w = .ok (.value v) w') (hd : o.dst = some d) (hn : d < n) (hg : o.guard = some (j, want))
    (hj : (ops[j]?).bind (·.dst) = some t) (ht : t < n) (hb : E t = .bool want)
    (h : lE P n ops Post rest (upd E d v) w') : lE P n ops Post (o :: rest) E w := fun a ha => by
  refine wpList_step fun K hK => ?_
  rw [if_pos (by unfold Region.wanted; rw [hg]; simp only [ha.yielded hj ht, hb]; simp)]
  unfold Oper.wp
  rw [ha.eval, hr, Oper.upon_value, hd]
  exact hK _ _ (h _ (ha.put hn v))

theorem lE_gskip {d j t : Nat} {want : Bool} (hd : o.dst = some d) (hn : d < n) (hg : o.guard = some (j, want))
    (hj : (ops[j]?).bind (·.dst) = some t) (ht : t < n) (hb : E t = .bool (!want) ∨ E t = undef)
    (h : lE P n ops Post rest (upd E d undef) w) : lE P n ops Post (o :: rest) E w := fun a ha => by
  refine wpList_step fun K hK => ?_
  rw [if_neg (by unfold Region.wanted; rw [hg]; simp only [ha.yielded hj ht]; rcases hb with hb | hb <;> simp [hb, undef])]
  rw [hd]
  exact hK _ _ (h _ (ha.put hn _))
end

/-! ### Operations that leave the world alone (a region that draws) -/
section
variable {P : Program} {n : Nat} {ops : Array Oper} {Post : Env → Prop} {E : Env} {w : World} {rest : List Oper} {o : Oper}

def sE (P : Program) (n : Nat) (ops : Array Oper) (w : World) (Post : Env → Prop) (l : List Oper) (E : Env) : Prop :=
  ∀ a, Rep n a E → wpStill P ops w (fun a' => ∃ E', Rep n a' E' ∧ Post E') l a

theorem sE_nil (h : Post E) : sE P n ops w Post [] E := fun _ ha => wpStill_nil ⟨E, ha, h⟩

theorem sE_val {d : Nat} {v : Value} (hr : (execOp (evE E) o).run P w = .ok (.value v) w) (hd : o.dst = some d) (hn : d < n) (hg : o.guard = none)
    (h : sE P n ops w Post rest (upd E d v)) : sE P n ops w Post (o :: rest) E := fun a ha => wpStill_step fun K hK => by
  rw [if_pos (by simp [Region.wanted, hg])]
  unfold Oper.still
  rw [ha.eval, hr, Oper.stillUpon_value, hd]
  exact hK _ (h _ (ha.put hn v))

theorem sE_call {d : Nat} {f : FuncId} {args : Array Value} {v : Value} (hr : (execOp (evE E) o).run P w = .ok (.enter f args) w) (hd : o.dst = some d) (hn : d < n) (hg : o.guard = none)
    (hc : Calls P f args w fun e w'' => e = .returned v ∧ w'' = w) (h : sE P n ops w Post rest (upd E d v)) : sE P n ops w Post (o :: rest) E := fun a ha => wpStill_step fun K hK => by
  rw [if_pos (by simp [Region.wanted, hg])]
  unfold Oper.still
  rw [ha.eval, hr]
  refine ⟨rfl, v, hc, ?_⟩
  rw [hd]
  exact hK _ (h _ (ha.put hn v))

theorem sE_gval {d j t : Nat} {want : Bool} {v : Value} (hr : (execOp (evE E) o).run P w = .ok (.value v) w) (hd : o.dst = some d) (hn : d < n) (hg : o.guard = some (j, want))
    (hj : (ops[j]?).bind (·.dst) = some t) (ht : t < n) (hb : E t = .bool want)
    (h : sE P n ops w Post rest (upd E d v)) : sE P n ops w Post (o :: rest) E := fun a ha => by
  refine wpStill_step fun K hK => ?_
  rw [if_pos (by unfold Region.wanted; rw [hg]; simp only [ha.yielded hj ht, hb]; simp)]
  unfold Oper.still
  rw [ha.eval, hr, Oper.stillUpon_value, hd]
  exact hK _ (h _ (ha.put hn v))

theorem sE_gskip {d j t : Nat} {want : Bool} (hd : o.dst = some d) (hn : d < n) (hg : o.guard = some (j, want))
    (hj : (ops[j]?).bind (·.dst) = some t) (ht : t < n) (hb : E t = .bool (!want) ∨ E t = undef)
    (h : sE P n ops w Post rest (upd E d undef)) : sE P n ops w Post (o :: rest) E := fun a ha => by
  refine wpStill_step fun K hK => ?_
  rw [if_neg (by unfold Region.wanted; rw [hg]; simp only [ha.yielded hj ht]; rcases hb with hb | hb <;> simp [hb, undef])]
  rw [hd]
  exact hK _ (h _ (ha.put hn _))
end

/-! ### Code -/
def QE (n : Nat) (Q : Exit → Env → World → Prop) : Exit → Act → World → Prop := fun e a w => ∃ E, Rep n a E ∧ Q e E w
def cE (P : Program) (n : Nat) (c : Code) (Q : Exit → Env → World → Prop) (E : Env) (w : World) : Prop := ∀ a, Rep n a E → c.wp P (QE n Q) a w
/-- It goes on normally, and then this holds. -/
def rE (P : Program) (n : Nat) (c : Code) (Post : Env → World → Prop) (E : Env) (w : World) : Prop := ∀ a, Rep n a E → c.wp P (QN n Post) a w
def thenE (next : Env → World → Prop) (Q : Exit → Env → World → Prop) : Exit → Env → World → Prop
  | .normal, E, w => next E w
  | e, E, w => Q e E w
def inBlockE (id : Nat) (Q : Exit → Env → World → Prop) : Exit → Env → World → Prop
  | .exit id', E, w => if id' = id then Q .normal E w else Q (.exit id') E w
  | e, E, w => Q e E w

section
variable {P : Program} {n : Nat} {Q : Exit → Env → World → Prop} {Post : Env → World → Prop} {E : Env} {w : World}

theorem cE_mono {c : Code} {Q' : Exit → Env → World → Prop} (h : cE P n c Q E w) (hq : ∀ e E w, Q e E w → Q' e E w) : cE P n c Q' E w :=
  fun a ha => wp_mono (h a ha) fun _ _ _ ⟨E', hE, hQ⟩ => ⟨E', hE, hq _ _ _ hQ⟩
theorem rE_mono {c : Code} {Post' : Env → World → Prop} (h : rE P n c Post E w) (hq : ∀ E w, Post E w → Post' E w) : rE P n c Post' E w :=
  fun a ha => wp_mono (h a ha) fun _ _ _ ⟨he, E', hE, hQ⟩ => ⟨he, E', hE, hq _ _ hQ⟩
theorem cE_of_rE {c : Code} (h : rE P n c Post E w) (hq : ∀ E w, Post E w → Q .normal E w) : cE P n c Q E w :=
  fun a ha => wp_mono (h a ha) fun _ _ _ ⟨he, E', hE, hQ⟩ => by subst he; exact ⟨E', hE, hq _ _ hQ⟩

theorem cE_seq {x y : Code} (h : cE P n x (thenE (cE P n y Q) Q) E w) : cE P n (.seq x y) Q E w := fun a ha => by
  refine wp_seq (wp_mono (h a ha) ?_)
  rintro e a' w' ⟨E', hE, hQ⟩
  cases e with
  | normal => exact hQ a' hE
  | exit id => exact ⟨E', hE, hQ⟩
  | goto l => exact ⟨E', hE, hQ⟩
  | ret => exact ⟨E', hE, hQ⟩
  | panic ch => exact ⟨E', hE, hQ⟩
  | outgrown => exact ⟨E', hE, hQ⟩
/-- A statement that goes on normally, then the rest. -/
theorem cE_seq_r {x y : Code} (h : rE P n x Post E w) (hy : ∀ E' w', Post E' w' → cE P n y Q E' w') : cE P n (.seq x y) Q E w :=
  cE_seq (cE_of_rE h hy)
theorem rE_seq {x y : Code} {Mid : Env → World → Prop} (h : rE P n x Mid E w) (hy : ∀ E' w', Mid E' w' → rE P n y Post E' w') : rE P n (.seq x y) Post E w := fun a ha => by
  refine wp_seq (wp_mono (h a ha) ?_)
  rintro e a' w' ⟨rfl, E', hE, hQ⟩
  exact hy _ _ hQ a' hE

theorem cE_cond {t : Nat} {x y : Code} {b : Bool} (hb : E t = .bool b) (ht : b = true → cE P n x Q E w) (hf : b = false → cE P n y Q E w) : cE P n (.cond (.tmp t) x y) Q E w := fun a ha =>
  wp_cond_split (t := b) (by rw [ha.ev t, hb]) (fun h => ht h a ha) (fun h => hf h a ha)
theorem rE_cond {t : Nat} {x y : Code} {b : Bool} (hb : E t = .bool b) (ht : b = true → rE P n x Post E w) (hf : b = false → rE P n y Post E w) : rE P n (.cond (.tmp t) x y) Post E w := fun a ha =>
  wp_cond_split (t := b) (by rw [ha.ev t, hb]) (fun h => ht h a ha) (fun h => hf h a ha)
theorem cE_skip (h : Q .normal E w) : cE P n .skip Q E w := fun _ ha => wp_skip ⟨E, ha, h⟩
theorem rE_skip (h : Post E w) : rE P n .skip Post E w := fun _ ha => wp_skip ⟨rfl, E, ha, h⟩
theorem cE_ret (h : Q .ret E w) : cE P n .ret Q E w := fun _ ha => wp_ret ⟨E, ha, h⟩
theorem cE_exit {id : Nat} (h : Q (.exit id) E w) : cE P n (.exit id) Q E w := fun _ ha => wp_exit ⟨E, ha, h⟩
theorem cE_block {id : Nat} {c : Code} (h : cE P n c (inBlockE id Q) E w) : cE P n (.block id c) Q E w := fun a ha => by
  refine wp_block (wp_mono (h a ha) ?_)
  rintro e a' w' ⟨E', hE, hQ⟩
  cases e with
  | exit id' =>
    simp only [inBlockE] at hQ
    simp only [Exit.inBlock]
    split
    · rename_i hid; rw [if_pos hid] at hQ; exact ⟨E', hE, hQ⟩
    · rename_i hid; rw [if_neg hid] at hQ; exact ⟨E', hE, hQ⟩
  | normal => exact ⟨E', hE, hQ⟩
  | goto l => exact ⟨E', hE, hQ⟩
  | ret => exact ⟨E', hE, hQ⟩
  | panic ch => exact ⟨E', hE, hQ⟩
  | outgrown => exact ⟨E', hE, hQ⟩
theorem cE_loop {c : Code} (I : Env → World → Nat → Prop) {m : Nat} (h₀ : I E w m)
    (round : ∀ E w m, I E w m → cE P n c (thenE (fun E' w' => ∃ m', m' < m ∧ I E' w' m') Q) E w) : cE P n (.loop c) Q E w := by
  intro a ha b k cs
  have key : ∀ m E w a, Rep n a E → I E w m →
      ∃ e a' w', QE n Q e a' w' ∧ Arrives P (lone (b.at a (.code c :: .inLoop c :: k)) cs w) b k cs e a' w' := by
    intro m
    induction m using Nat.strongRecOn with
    | _ m ih =>
      intro E w a ha hI
      obtain ⟨e, a₁, w₁, ⟨E₁, hE₁, hq⟩, harr⟩ := round E w m hI a ha b (.inLoop c :: k) cs
      cases e with
      | normal =>
        obtain ⟨m', hlt, hI₁⟩ := hq
        obtain ⟨e₂, a₂, w₂, hq₂, harr₂⟩ := ih m' hlt E₁ w₁ a₁ hE₁ hI₁
        exact ⟨e₂, a₂, w₂, hq₂, .of_steps (Steps.trans harr (.one step_inLoop)) harr₂⟩
      | exit id => exact ⟨_, a₁, w₁, ⟨E₁, hE₁, hq⟩, .pass (x := .inLoop c) rfl (fun _ _ => .inl (by simp)) harr⟩
      | goto l => exact ⟨_, a₁, w₁, ⟨E₁, hE₁, hq⟩, .pass (x := .inLoop c) rfl (fun _ _ => .inl (by simp)) harr⟩
      | ret => exact ⟨_, a₁, w₁, ⟨E₁, hE₁, hq⟩, .pass (x := .inLoop c) rfl (fun _ _ => .inl (by simp)) harr⟩
      | panic ch => exact ⟨_, a₁, w₁, ⟨E₁, hE₁, hq⟩, .pass (x := .inLoop c) rfl (fun _ _ => .inl (by simp)) harr⟩
      | outgrown => exact ⟨_, a₁, w₁, ⟨E₁, hE₁, hq⟩, .pass (x := .inLoop c) rfl (fun _ _ => .inl (by simp)) harr⟩
  obtain ⟨e, a', w', hq, harr⟩ := key m E w a ha h₀
  exact ⟨e, a', w', hq, .of_steps (.one step_loop) harr⟩

theorem wpStill_mono' {ops : Array Oper} {Q Q' : Act → Prop} (hq : ∀ a, Q a → Q' a) : ∀ (l : List Oper) (a : Act), wpStill P ops w Q l a → wpStill P ops w Q' l a
  | [], a, h => hq a h
  | o :: l, a, h => by
    unfold wpStill at h ⊢
    split
    · rename_i hw
      rw [if_pos hw] at h
      exact Oper.still_mono (wpStill_mono' hq l) h
    · rename_i hw
      rw [if_neg hw] at h
      exact wpStill_mono' hq l _ h

theorem rE_list {id : Nat} {l : List Oper} (h : lE P n l.toArray Post l E w) : rE P n (.region id l.toArray false) Post E w := fun a ha => wp_region_lit (h a ha)
/-- A region that draws; its operations leave the world alone. -/
theorem rE_still {id : Nat} {l : List Oper} (hm : P.follows .mixedOrders = true) (hB : Region.lexB .any l.toArray = true)
    (h : sE P n l.toArray w.drew (fun E' => Post E' w.drew) l E) : rE P n (.region id l.toArray true) Post E w := fun a ha =>
  wp_region_still_lit hm hB (by
    have := h a ha
    refine wpStill_mono' ?_ _ _ this
    rintro a' ⟨E', hE, hP⟩
    exact ⟨rfl, E', hE, hP⟩)
/-- A region that draws; the operations ahead of number k leave the world alone; from k on the order is forced. -/
theorem rE_tail {id : Nat} {l : List Oper} (k : Nat) (hm : P.follows .mixedOrders = true) (hB : Region.lexTailB .any l.toArray k = true)
    (h : sE P n l.toArray w.drew (fun E' => lE P n l.toArray Post (l.drop k) E' w.drew) (l.take k) E) : rE P n (.region id l.toArray true) Post E w := fun a ha =>
  wp_region_still_tail k hm hB (by
    have := h a ha
    refine wpStill_mono' ?_ _ _ this
    rintro a' ⟨E', hE, hP⟩
    exact hP a' hE)
end

/-! ### A region that draws, with one call that may write, the loads taken first under S -/
section
variable {P : Program} {n : Nat} {ops : Array Oper} {S : World → Prop} {E : Env} {rest : List Oper} {o : Oper}

def wpYld (P : Program) (ops : Array Oper) (S : World → Prop) (Q : Act → Prop) : List Oper → Act → Prop
  | [], a => Q a
  | o :: rest, a => ∃ v, YieldsIf P ops S o v a ∧ wpYld P ops S Q rest (a.put o.dst v)

theorem wpYld_mono {Q Q' : Act → Prop} (hq : ∀ a, Q a → Q' a) : ∀ (l : List Oper) (a : Act), wpYld P ops S Q l a → wpYld P ops S Q' l a
  | [], a, h => hq a h
  | _ :: l, _, ⟨v, hy, h⟩ => ⟨v, hy, wpYld_mono hq l _ h⟩

def yE (P : Program) (n : Nat) (ops : Array Oper) (S : World → Prop) (Post : Env → Prop) (l : List Oper) (E : Env) : Prop :=
  ∀ a, Rep n a E → wpYld P ops S (fun a' => ∃ E', Rep n a' E' ∧ Post E') l a

theorem yE_nil {Post : Env → Prop} (h : Post E) : yE P n ops S Post [] E := fun _ ha => ⟨E, ha, h⟩
theorem yE_val {Post : Env → Prop} {d : Nat} {v : Value} (hr : ∀ w, S w → (execOp (evE E) o).run P w = .ok (.value v) w) (hd : o.dst = some d) (hn : d < n) (hg : o.guard = none)
    (h : yE P n ops S Post rest (upd E d v)) : yE P n ops S Post (o :: rest) E := fun a ha => by
  refine ⟨v, .inl ⟨by simp [Region.wanted, hg], fun w hS => by rw [ha.eval]; exact hr w hS⟩, ?_⟩
  rw [hd]
  exact h _ (ha.put hn v)

/-- Number kc is the one operation that is carried out in its turn. -/
def heldB (md : Region.Mode) (ops : Array Oper) (kc : Nat) : Nat → Nat → Array Bool → Bool
  | 0, _, listed => (Region.ready md ops listed).isEmpty
  | f + 1, k, listed => (bif Nat.beq k kc then decide (Region.ready md ops listed = [k]) else ((Region.ready md ops listed).contains k && Region.free md ops listed k)) && heldB md ops kc f (k + 1) (listed.setIfInBounds k true)

theorem wpAnyH_yld {md : Region.Mode} {Post : Env → World → Prop} {kc g : Nat} {w : World} (hs : Region.noSelect ops = true) (hS : S w) (K : Array Bool → Act → Prop)
    (hK : ∀ listed a, K listed a → wpAnyH P md ops (QN n Post) S g listed a w) {B : Nat → Array Bool → Bool} :
    ∀ (l : List Oper) (k : Nat) (listed : Array Bool) (a : Act), (∀ j, j < l.length → l[j]? = ops[k + j]?) → (∀ j, k ≤ j → j < k + l.length → Nat.beq j kc = false) →
    heldB md ops kc (l.length + g) k listed = true → (∀ listed', heldB md ops kc g (k + l.length) listed' = true → B (k + l.length) listed' = true) →
    wpYld P ops S (fun a' => ∀ listed', B (k + l.length) listed' = true → K listed' a') l a → wpAnyH P md ops (QN n Post) S (l.length + g) listed a w
  | [], k, listed, a, _, _, hB, hBB, h => by
    rw [List.length_nil, Nat.zero_add] at hB ⊢
    exact hK _ _ (h listed (hBB listed (by simpa using hB)))
  | o :: l, k, listed, a, hl, hne, hB, hBB, h => by
    have h0 : ops[k]? = some o := by simpa using (hl 0 (by simp)).symm
    have e : (o :: l).length + g = (l.length + g) + 1 := by simp; omega
    rw [e] at hB ⊢
    unfold heldB at hB
    rw [hne k (Nat.le_refl _) (by simp)] at hB
    simp only [cond_false, Bool.and_eq_true] at hB
    obtain ⟨⟨hr, hf⟩, hB'⟩ := hB
    obtain ⟨v, hy, hrest⟩ := h
    have e2 : k + (o :: l).length = k + 1 + l.length := by simp; omega
    rw [e2] at hBB hrest
    exact wpAnyH_take h0 hs hf hr (fun _ _ _ h => by cases h.1) hy hS
      (wpAnyH_yld hs hS K hK l (k + 1) _ _ (fun j hj => by have := hl (j + 1) (by simp; omega); simpa [Nat.add_assoc, Nat.add_comm 1 j] using this)
        (fun j h1 h2 => hne j (by omega) (by simp; omega)) hB' hBB hrest)

theorem rE_held {Post : Env → World → Prop} {id : Nat} {l : List Oper} {w : World} (kc : Nat) (hm : P.follows .mixedOrders = true) (hs : Region.noSelect l.toArray = true)
    (hB : heldB .any l.toArray kc l.length 0 (Array.replicate l.length false) = true) (hS : S w.drew) (ho : l[kc]? = some o)
    (h : yE P n l.toArray S (fun E₁ => ∃ f args d, (execOp (evE E₁) o).run P w.drew = .ok (.enter f args) w.drew ∧ o.dst = some d ∧ d < n ∧ o.guard = none ∧
      Calls P f args w.drew (fun e w' => ∃ v, e = .returned v ∧ S w' ∧ yE P n l.toArray S (fun E₂ => Post E₂ w') (l.drop (kc + 1)) (upd E₁ d v))) (l.take kc) E) :
    rE P n (.region id l.toArray true) Post E w := fun a ha => by
  have hkc : kc < l.length := by
    rcases Nat.lt_or_ge kc l.length with h' | h'
    · exact h'
    · rw [List.getElem?_eq_none h'] at ho; cases ho
  have htl : (l.take kc).length = kc := by simp; omega
  have hdl : (l.drop (kc + 1)).length = l.length - (kc + 1) := by simp
  have beqne : ∀ j, j ≠ kc → Nat.beq j kc = false := fun j hj => by
    rw [Bool.eq_false_iff]; intro hb; exact hj (Nat.eq_of_beq_eq_true hb)
  refine wp_region_held hm (S := S) ?_
  have e1 : l.toArray.size = (l.take kc).length + (l.length - kc) := by rw [htl]; simp; omega
  have e1' : l.length = (l.take kc).length + (l.length - kc) := by rw [htl]; omega
  rw [e1]
  rw [e1'] at hB
  have hyl := h a ha
  refine wpAnyH_yld (g := l.length - kc) (kc := kc) (Post := Post) (n := n) (K := fun listed a' => heldB .any l.toArray kc (l.length - kc) kc listed = true ∧ ∃ E', Rep n a' E' ∧ ∃ f args d, (execOp (evE E') o).run P w.drew = .ok (.enter f args) w.drew ∧ o.dst = some d ∧ d < n ∧ o.guard = none ∧
      Calls P f args w.drew (fun e w' => ∃ v, e = .returned v ∧ S w' ∧ yE P n l.toArray S (fun E₂ => Post E₂ w') (l.drop (kc + 1)) (upd E' d v)))
    (B := fun _ listed' => heldB .any l.toArray kc (l.length - kc) kc listed') hs hS ?_ (l.take kc) 0 _ a ?_ ?_ hB ?_ ?_
  · rintro listed a' ⟨hB1, E', hE', f, args, d, hrun, hd, hdn, hg, hcall⟩
    have e2 : l.length - kc = (l.length - (kc + 1)) + 1 := by omega
    rw [e2] at hB1 ⊢
    unfold heldB at hB1
    rw [Nat.beq_refl] at hB1
    simp only [cond_true, Bool.and_eq_true, decide_eq_true_eq] at hB1
    refine wpAnyH_all hB1.1 (by simp) ?_
    intro i hi
    have hik : i = kc := by simpa using hi
    subst hik
    unfold wpOp
    have ho' : l.toArray[i]? = some o := by simpa using ho
    rw [ho']
    simp only []
    rw [if_pos (by simp [Region.wanted, hg])]
    refine .inl ?_
    unfold Oper.wp
    rw [hE'.eval, hrun, Oper.upon_enter]
    refine hcall.mono ?_
    rintro e w' ⟨v, rfl, hS', hy2⟩
    refine ⟨hS', ?_⟩
    rw [hd]
    have hy3 := hy2 _ (hE'.put hdn v)
    have e3 : l.length - (i + 1) = (l.drop (i + 1)).length + 0 := by omega
    rw [e3] at hB1 ⊢
    refine wpAnyH_yld (g := 0) (kc := i) (Post := Post) (n := n) (K := fun listed a' => (Region.ready .any l.toArray listed).isEmpty = true ∧ ∃ E₂, Rep n a' E₂ ∧ Post E₂ w')
      (B := fun _ listed' => (Region.ready .any l.toArray listed').isEmpty) hs hS' ?_ (l.drop (i + 1)) (i + 1) _ _ ?_ ?_ hB1.2 ?_ ?_
    · rintro listed' a'' ⟨hr, E₂, hE₂, hP⟩
      exact wpAnyH_done (by simpa using hr) ⟨rfl, E₂, hE₂, hP⟩ 0
    · intro j hj; simp [List.getElem?_drop]
    · intro j h1 h2; exact beqne j (by omega)
    · intro listed' hb; simpa [heldB] using hb
    · exact wpYld_mono (fun a'' ⟨E₂, hE₂, hP⟩ listed' hb => ⟨hb, E₂, hE₂, hP⟩) _ _ hy3
  · intro j hj
    rw [htl] at hj
    simp [hj]
  · intro j _ h2
    rw [htl] at h2
    exact beqne j (by omega)
  · intro listed' hb; rw [htl, Nat.zero_add] at hb; exact hb
  · exact wpYld_mono (fun a'' ⟨E₁, hE₁, hP⟩ listed' hb => ⟨hb, E₁, hE₁, hP⟩) _ _ hyl
end

/-! ### A call -/
section
variable {P : Program} {n : Nat} {f : FuncId} {fn : Func} {c : Code} {w : World} {R : Ending → World → Prop}

def env0 : Env := fun _ => undef

theorem rep_init (n : Nat) (args : Array Value) (h : args.size ≤ n) (E : Env) (hE : ∀ t, E t = args.getD t undef) :
    Rep n { tmps := args ++ Array.replicate (n - args.size) undef, defers := [] } E := by
  refine ⟨by simp; omega, fun t => ?_, rfl⟩
  rw [hE t]
  simp only [Act.eval, Array.getD_eq_getD_getElem?, Array.getElem?_append]
  split
  · rfl
  · rename_i ht
    rw [Array.getElem?_eq_none (xs := args) (by omega)]
    simp only [Array.getElem?_replicate]
    split <;> rfl

theorem env1 (v0 : Value) (t : Nat) : upd env0 0 v0 t = (#[v0] : Array Value).getD t undef := by
  rcases t with _ | t
  · rfl
  · rw [upd_ne _ _ _ _ (by omega)]; simp [env0]
theorem env2 (v0 v1 : Value) (t : Nat) : upd (upd env0 0 v0) 1 v1 t = (#[v0, v1] : Array Value).getD t undef := by
  rcases t with _ | _ | t
  · rfl
  · rfl
  · rw [upd_ne _ _ _ _ (by omega), upd_ne _ _ _ _ (by omega)]; simp [env0]
theorem env3 (v0 v1 v2 : Value) (t : Nat) : upd (upd (upd env0 0 v0) 1 v1) 2 v2 t = (#[v0, v1, v2] : Array Value).getD t undef := by
  rcases t with _ | _ | _ | t
  · rfl
  · rfl
  · rfl
  · rw [upd_ne _ _ _ _ (by omega), upd_ne _ _ _ _ (by omega), upd_ne _ _ _ _ (by omega)]; simp [env0]

/-- How a function ends: its results out of the environment. -/
def endE (res : Env → Value) (R : Ending → World → Prop) : Exit → Env → World → Prop := fun e E w => (e = .normal ∨ e = .ret) ∧ R (.returned (res E)) w

theorem calls_E (hf : P.funcs[f]? = some fn) (hb : fn.body = some c) (hn : fn.ntmps = n) {args : Array Value} (hsz : args.size ≤ n) {E : Env} (hE : ∀ t, E t = args.getD t undef) (res : Env → Value)
    (hres : ∀ a E w, Rep n a E → (results fn a.tmps).run P w = .ok (res E) w) (h : cE P n c (endE res R) E w) : Calls P f args w R := by
  refine calls_of_wp hf hb ?_
  rw [hn]
  refine wp_mono (h _ (rep_init n args hsz E hE)) ?_
  rintro e a' w' ⟨E', hE', he, hR⟩
  rcases he with rfl | rfl
  · exact ⟨hE'.defers, _, hres _ _ _ hE', hR⟩
  · exact ⟨hE'.defers, _, hres _ _ _ hE', hR⟩

theorem Rep.getD {a : Act} {E : Env} (h : Rep n a E) (t : Nat) : a.tmps.getD t undef = E t := h.ev t
theorem res0 (hr : fn.results = #[]) : ∀ (a : Act) (E : Env) (w : World), Rep n a E → (results fn a.tmps).run P w = .ok ((fun _ => Value.tuple #[]) E) w := fun _ _ _ _ => results_none hr _ _ _
theorem res1 {t : Nat} (hr : fn.results = #[.tmp t]) : ∀ (a : Act) (E : Env) (w : World), Rep n a E → (results fn a.tmps).run P w = .ok ((fun E => E t) E) w := fun a E w h => by
  rw [results_tmp hr, h.getD]
theorem res2 {t u : Nat} (hr : fn.results = #[.tmp t, .tmp u]) : ∀ (a : Act) (E : Env) (w : World), Rep n a E → (results fn a.tmps).run P w = .ok ((fun E => .tuple #[E t, E u]) E) w := fun a E w h => by
  rw [results_tmp2 hr, h.getD, h.getD]
theorem res3 {t u v : Nat} (hr : fn.results = #[.tmp t, .tmp u, .tmp v]) : ∀ (a : Act) (E : Env) (w : World), Rep n a E → (results fn a.tmps).run P w = .ok ((fun E => .tuple #[E t, E u, E v]) E) w := fun a E w h => by
  simp only [results, hr]
  simp [h.getD]
end

theorem keep1 {E : Env} {d0 : Nat} {v0 : Value} (h0 : E d0 = v0) : E = upd E d0 v0 := upd_self h0
theorem keep2 {E : Env} {d0 d1 : Nat} {v0 v1 : Value} (h0 : E d0 = v0) (h1 : E d1 = v1) : E = upd (upd E d0 v0) d1 v1 := by
  rw [← upd_self h0]; exact upd_self h1
theorem keep3 {E : Env} {d0 d1 d2 : Nat} {v0 v1 v2 : Value} (h0 : E d0 = v0) (h1 : E d1 = v1) (h2 : E d2 = v2) : E = upd (upd (upd E d0 v0) d1 v1) d2 v2 := by
  rw [← keep2 h0 h1]; exact upd_self h2
theorem keep4 {E : Env} {d0 d1 d2 d3 : Nat} {v0 v1 v2 v3 : Value} (h0 : E d0 = v0) (h1 : E d1 = v1) (h2 : E d2 = v2) (h3 : E d3 = v3) : E = upd (upd (upd (upd E d0 v0) d1 v1) d2 v2) d3 v3 := by
  rw [← keep3 h0 h1 h2]; exact upd_self h3
theorem keep5 {E : Env} {d0 d1 d2 d3 d4 : Nat} {v0 v1 v2 v3 v4 : Value} (h0 : E d0 = v0) (h1 : E d1 = v1) (h2 : E d2 = v2) (h3 : E d3 = v3) (h4 : E d4 = v4) : E = upd (upd (upd (upd (upd E d0 v0) d1 v1) d2 v2) d3 v3) d4 v4 := by
  rw [← keep4 h0 h1 h2 h3]; exact upd_self h4

/-! ### In place -/
section
variable {P : Program} {n : Nat} {Q : Exit → Env → World → Prop} {N N' N'' : Env → World → Prop} {E : Env} {w : World} {y : Code} {id : Nat} {l : List Oper} {res : Env → Value} {R : Ending → World → Prop}
theorem cE_list (h : lE P n l.toArray (cE P n y Q) l E w) : cE P n (.seq (.region id l.toArray false) y) Q E w := cE_seq_r (rE_list h) (fun _ _ h => h)
theorem cE_still (hm : P.follows .mixedOrders = true) (hB : Region.lexB .any l.toArray = true) (h : sE P n l.toArray w.drew (fun E' => cE P n y Q E' w.drew) l E) : cE P n (.seq (.region id l.toArray true) y) Q E w :=
  cE_seq_r (rE_still (Post := cE P n y Q) hm hB h) (fun _ _ h => h)
theorem cE_tail (k : Nat) (hm : P.follows .mixedOrders = true) (hB : Region.lexTailB .any l.toArray k = true)
    (h : sE P n l.toArray w.drew (fun E' => lE P n l.toArray (cE P n y Q) (l.drop k) E' w.drew) (l.take k) E) : cE P n (.seq (.region id l.toArray true) y) Q E w :=
  cE_seq_r (rE_tail (Post := cE P n y Q) k hm hB h) (fun _ _ h => h)
theorem cE_list_last (h : lE P n l.toArray (Q .normal) l E w) : cE P n (.region id l.toArray false) Q E w := cE_of_rE (rE_list h) (fun _ _ h => h)
theorem cE_skipT (h : cE P n y Q E w) : cE P n .skip (thenE (cE P n y Q) Q) E w := cE_skip h
theorem cE_retE (h : R (.returned (res E)) w) : cE P n .ret (endE res R) E w := cE_ret ⟨.inr rfl, h⟩
theorem cE_retE1 (h : R (.returned (res E)) w) : cE P n .ret (thenE N (endE res R)) E w := cE_ret ⟨.inr rfl, h⟩
theorem cE_retE2 (h : R (.returned (res E)) w) : cE P n .ret (thenE N' (thenE N (endE res R))) E w := cE_ret ⟨.inr rfl, h⟩
theorem cE_retE3 (h : R (.returned (res E)) w) : cE P n .ret (thenE N'' (thenE N' (thenE N (endE res R)))) E w := cE_ret ⟨.inr rfl, h⟩
theorem end_normal (h : R (.returned (res E)) w) : endE res R .normal E w := ⟨.inl rfl, h⟩
theorem cE_condT {t : Nat} {x z : Code} (hb : E t = .bool true) (h : cE P n x Q E w) : cE P n (.cond (.tmp t) x z) Q E w := cE_cond hb (fun _ => h) (fun e => by cases e)
theorem cE_condF {t : Nat} {x z : Code} (hb : E t = .bool false) (h : cE P n z Q E w) : cE P n (.cond (.tmp t) x z) Q E w := cE_cond hb (fun e => by cases e) (fun _ => h)
end

/-! ### Pieces of a function's code -/
def isCond (t : Nat) : Code → Bool
  | .cond (.tmp u) _ _ => Nat.beq u t
  | _ => false
/-- The statement that ends in the test on slot t, with what it tests. -/
def findCond (t : Nat) : Code → Option Code
  | .loop c => findCond t c
  | .seq a b => bif isCond t b then some (.seq a b) else match findCond t a with
    | some c => some c
    | none => findCond t b
  | .block _ c => findCond t c
  | .scope c => findCond t c
  | .cond _ a b => match findCond t a with
    | some c => some c
    | none => findCond t b
  | _ => none
def findBlock (n : Nat) : Code → Option Code
  | .loop c => findBlock n c
  | .seq a b => match findBlock n a with
    | some c => some c
    | none => findBlock n b
  | .block id c => bif Nat.beq id n then some (.block id c) else findBlock n c
  | .scope c => findBlock n c
  | .cond _ a b => match findBlock n a with
    | some c => some c
    | none => findBlock n b
  | _ => none

section
variable {P : Program} {n : Nat} {Q : Exit → Env → World → Prop} {E : Env} {w : World} {y : Code} {id : Nat} {l : List Oper} {S : World → Prop} {o : Oper}
theorem cE_list_lastT (h : lE P n l.toArray (cE P n y Q) l E w) : cE P n (.region id l.toArray false) (thenE (cE P n y Q) Q) E w := cE_of_rE (rE_list h) (fun _ _ h => h)
theorem cE_held (kc : Nat) (hm : P.follows .mixedOrders = true) (hs : Region.noSelect l.toArray = true)
    (hB : heldB .any l.toArray kc l.length 0 (Array.replicate l.length false) = true) (hS : S w.drew) (ho : l[kc]? = some o)
    (h : yE P n l.toArray S (fun E₁ => ∃ f args d, (execOp (evE E₁) o).run P w.drew = .ok (.enter f args) w.drew ∧ o.dst = some d ∧ d < n ∧ o.guard = none ∧
      Calls P f args w.drew (fun e w' => ∃ v, e = .returned v ∧ S w' ∧ yE P n l.toArray S (fun E₂ => cE P n y Q E₂ w') (l.drop (kc + 1)) (upd E₁ d v))) (l.take kc) E) :
    cE P n (.seq (.region id l.toArray true) y) Q E w := cE_seq_r (rE_held (Post := cE P n y Q) kc hm hs hB hS ho h) (fun _ _ h => h)
theorem cE_skipN (h : Q .normal E w) : cE P n .skip Q E w := cE_skip h
end

theorem cE_loop_once {P : Program} {n : Nat} {Q : Exit → Env → World → Prop} {E : Env} {w : World} {c : Code} (h : cE P n c (thenE (fun _ _ => False) Q) E w) : cE P n (.loop c) Q E w := by
  refine cE_loop (fun E' w' m => E' = E ∧ w' = w ∧ m = 0) (m := 0) ⟨rfl, rfl, rfl⟩ ?_
  rintro E' w' m ⟨h1, h2, h3⟩
  subst h1; subst h2; subst h3
  refine cE_mono h ?_
  intro e E1 w1 hq
  cases e with
  | normal => exact hq.elim
  | exit id => exact hq
  | goto l => exact hq
  | ret => exact hq
  | panic ch => exact hq
  | outgrown => exact hq
end Go.Proofs.Qxb6613145aFmt
