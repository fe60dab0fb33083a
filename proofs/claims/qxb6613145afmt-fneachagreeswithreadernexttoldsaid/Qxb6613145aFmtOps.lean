/-
  THE OPERATIONS OF THIS PROGRAM, each by one equation over a valuation of its operands; a block of cells; what a call leaves alone.
-/
import Derived.Test.Qxb6613145aFmtFrame
import Derived.Laws.CopyRow
import Derived.Laws.MakeOwn
import Derived.LaidEql
import Derived.Lib.BytesEntry
namespace Go.Proofs.Qxb6613145aFmt
open Go.RowKit

/-! ### Blocks -/
def Blk (w : World) (b : Nat) (cs : Array Value) (ty : TypeId) : Prop := w.heap[b]? = some (.cells cs ty (0, 0))

theorem Blk.lt {w : World} {b : Nat} {cs : Array Value} {ty : TypeId} (h : Blk w b cs ty) : b < w.heap.size := by
  rcases Nat.lt_or_ge b w.heap.size with h' | h'
  · exact h'
  · unfold Blk at h; rw [Array.getElem?_eq_none h'] at h; cases h
theorem Blk.cell {w : World} {b : Nat} {cs : Array Value} {ty : TypeId} (h : Blk w b cs ty) (i : Nat) : w.cell? ⟨b, i, none⟩ = cs[i]? := by
  unfold Blk at h
  simp [World.cell?, h]
theorem Blk.frozen {w : World} {b : Nat} {cs : Array Value} {ty : TypeId} (h : Blk w b cs ty) (i : Nat) : w.frozen? ⟨b, i, none⟩ = false := by
  unfold Blk at h
  simp [World.frozen?, h]
theorem Blk.setCell {w : World} {b : Nat} {cs : Array Value} {ty : TypeId} (h : Blk w b cs ty) (i : Nat) (v : Value) : Blk (w.setCell ⟨b, i, none⟩ v) b (cs.setIfInBounds i v) ty := by
  unfold Blk at h ⊢
  simp [World.setCell, Array.getElem?_modify, h]
theorem Blk.setCell_ne {w : World} {b c : Nat} {cs : Array Value} {ty : TypeId} (h : Blk w b cs ty) (hne : b ≠ c) (i : Nat) (v : Value) : Blk (w.setCell ⟨c, i, none⟩ v) b cs ty := by
  unfold Blk at h ⊢
  rw [← h]
  exact Below.heap_setCell _ _ _ _ hne
theorem Blk.of_eq {w w' : World} {b : Nat} {cs : Array Value} {ty : TypeId} (h : Blk w b cs ty) (e : w'.heap[b]? = w.heap[b]?) : Blk w' b cs ty := e.trans h
theorem Blk.inj {w : World} {b : Nat} {cs cs' : Array Value} {ty ty' : TypeId} (h : Blk w b cs ty) (h' : Blk w b cs' ty') : cs = cs' := by
  unfold Blk at h h'; rw [h] at h'; injection h' with h'; injection h' 

/-- Only the blocks of S, and new ones, have turned. -/
structure Keep (S : Nat → Prop) (w w' : World) : Prop where
  os : w'.os = w.os
  tape : w'.tape = w.tape
  output : w'.output = w.output
  size : w.heap.size ≤ w'.heap.size
  block : ∀ k, k < w.heap.size → ¬ S k → w'.heap[k]? = w.heap[k]?

theorem Keep.refl (S : Nat → Prop) (w : World) : Keep S w w := ⟨rfl, rfl, rfl, Nat.le_refl _, fun _ _ _ => rfl⟩
theorem Keep.drew {S : Nat → Prop} {a w : World} (h : Keep S a w) : Keep S a w.drew := ⟨h.os, h.tape, h.output, h.size, h.block⟩
theorem Keep.trans {S : Nat → Prop} {a b c : World} (h : Keep S a b) (k : Keep S b c) : Keep S a c :=
  ⟨k.os.trans h.os, k.tape.trans h.tape, k.output.trans h.output, Nat.le_trans h.size k.size, fun i hi hs => (k.block i (Nat.lt_of_lt_of_le hi h.size) hs).trans (h.block i hi hs)⟩
theorem Keep.mono {S S' : Nat → Prop} {a b : World} (h : Keep S a b) (hs : ∀ k, k < a.heap.size → S k → S' k) : Keep S' a b :=
  ⟨h.os, h.tape, h.output, h.size, fun k hk hn => h.block k hk (fun hk' => hn (hs k hk hk'))⟩
theorem Keep.setCell {S : Nat → Prop} {a w : World} (h : Keep S a w) {b i : Nat} (hb : S b) (v : Value) : Keep S a (w.setCell ⟨b, i, none⟩ v) :=
  h.trans ⟨rfl, rfl, rfl, by simp [World.setCell], fun k _ hs => Below.heap_setCell _ _ _ _ (fun e => hs (by rw [e]; exact hb))⟩
theorem Keep.alloc {S : Nat → Prop} {a w : World} (h : Keep S a w) (o : Obj) : Keep S a (w.alloc o) :=
  h.trans ⟨rfl, rfl, rfl, by simp, fun k hk _ => Below.heap_alloc _ _ _ hk⟩
theorem Keep.setRow {S : Nat → Prop} {a w : World} (h : Keep S a w) {g : Nat} (hg : S g) (cs : Array Value) : Keep S a (w.setRow g cs) :=
  h.trans ⟨rfl, rfl, rfl, by simp [World.setRow], fun k _ hs => setRow_other w g k cs (fun e => hs (by rw [e]; exact hg))⟩
theorem Keep.blk {S : Nat → Prop} {w w' : World} (h : Keep S w w') {b : Nat} {cs : Array Value} {ty : TypeId} (hb : Blk w b cs ty) (hs : ¬ S b) : Blk w' b cs ty :=
  hb.of_eq (h.block b hb.lt hs)
/-- What was made since is nobody's business. -/
theorem Keep.since {S : Nat → Prop} {a b c : World} (h : Keep S a b) (k : Keep (fun i => S i ∨ a.heap.size ≤ i) b c) : Keep S a c :=
  ⟨k.os.trans h.os, k.tape.trans h.tape, k.output.trans h.output, Nat.le_trans h.size k.size, fun i hi hs => (k.block i (Nat.lt_of_lt_of_le hi h.size) (fun hx => hx.elim hs (fun h' => by omega))).trans (h.block i hi hs)⟩

/-! ### Operations -/
section
variable {ρ : Operand → Value} {dst : Option Tmp} {ty : TypeId} {pos : String} {after : Array Edge} {g : Option (Nat × Bool)} {w : World}

theorem x_move {x : Operand} {v : Value} (h : ρ x = v) : (execOp ρ ⟨dst, .move x, ty, pos, after, g⟩).run Tryf.prog w = .ok (.value v) w := by
  subst h; rfl
theorem x_assign {x : Operand} {v : Value} (h : ρ x = v) : (execOp ρ ⟨dst, .assign x, ty, pos, after, g⟩).run Tryf.prog w = .ok (.value v) w := by
  subst h; rfl
theorem x_nil {x : Operand} {p : Addr} (h : ρ x = .pointer (some p)) : (execOp ρ ⟨dst, .nilCheck x, ty, pos, after, g⟩).run Tryf.prog w = .ok (.value (.pointer (some p))) w := by
  simp [go_sem, h]
theorem x_nil_iface {x : Operand} {t : TypeId} {v : Value} (h : ρ x = .iface t v) : (execOp ρ ⟨dst, .nilCheck x, ty, pos, after, g⟩).run Tryf.prog w = .ok (.value (.iface t v)) w := by
  simp [go_sem, h]
/-- A field of the scanner. -/
theorem x_fld {x : Operand} {sc i : Nat} (hi : i < 11) (h : ρ x = .pointer (some ⟨sc, 0, none⟩)) :
    (execOp ρ ⟨dst, .fieldAddr 67 x i, ty, pos, after, g⟩).run Tryf.prog w = .ok (.value (.pointer (some ⟨sc, i, none⟩))) w := by
  rcases i with _ | _ | _ | _ | _ | _ | _ | _ | _ | _ | _ | i
  all_goals first | omega | simp [go_sem, h]
/-- A field of the strings.Reader. -/
theorem x_fld60 {x : Operand} {sc i : Nat} (hi : i < 3) (h : ρ x = .pointer (some ⟨sc, 0, none⟩)) :
    (execOp ρ ⟨dst, .fieldAddr 60 x i, ty, pos, after, g⟩).run Tryf.prog w = .ok (.value (.pointer (some ⟨sc, i, none⟩))) w := by
  rcases i with _ | _ | _ | i
  all_goals first | omega | simp [go_sem, h]
/-- A field of the lines.Reader. -/
theorem x_fld48 {x : Operand} {sc i : Nat} (hi : i < 3) (h : ρ x = .pointer (some ⟨sc, 0, none⟩)) :
    (execOp ρ ⟨dst, .fieldAddr 48 x i, ty, pos, after, g⟩).run Tryf.prog w = .ok (.value (.pointer (some ⟨sc, i, none⟩))) w := by
  rcases i with _ | _ | _ | i
  all_goals first | omega | simp [go_sem, h]
theorem x_load {T : TypeId} {x : Operand} {p : Addr} {v : Value} (hT : (isAgg T).run Tryf.prog w = .ok false w) (h : ρ x = .pointer (some p)) (hc : w.cell? p = some v) :
    (execOp ρ ⟨dst, .load T x, ty, pos, after, g⟩).run Tryf.prog w = .ok (.value v) w := by
  simp [go_sem, h, hT, hc]
theorem x_loadB {T : TypeId} {x : Operand} {b i : Nat} {cs : Array Value} {t : TypeId} {v : Value} (hT : (isAgg T).run Tryf.prog w = .ok false w) (h : ρ x = .pointer (some ⟨b, i, none⟩)) (hb : Blk w b cs t) (hc : cs[i]? = some v) :
    (execOp ρ ⟨dst, .load T x, ty, pos, after, g⟩).run Tryf.prog w = .ok (.value v) w := x_load hT h ((hb.cell i).trans hc)
theorem x_storeB {T : TypeId} {x y : Operand} {b i : Nat} {cs : Array Value} {t : TypeId} {u v : Value} (hT : (sizeOf T).run Tryf.prog w = .ok 1 w) (h : ρ x = .pointer (some ⟨b, i, none⟩)) (hv : ρ y = v) (h1 : v.oneCell' = true) (hb : Blk w b cs t) (hc : cs[i]? = some u) :
    (execOp ρ ⟨dst, .store T x y, ty, pos, after, g⟩).run Tryf.prog w = .ok .skip (w.setCell ⟨b, i, none⟩ v) := by
  have h2 := (hb.cell i).trans hc
  have h3 := hb.frozen i
  cases v <;> simp [Value.oneCell'] at h1 <;> first | (simp [go_sem, h, hv, hT, h2, h3]; done) | (simp [go_sem, h, hv, hT]; simp [store, Sem.run, h2, h3])
theorem x_gtr {x y : Operand} {m n : Int} (h : ρ x = .int .i64 m) (h' : ρ y = .int .i64 n) : (execOp ρ ⟨dst, .binOp .gtr 3 x y 3, ty, pos, after, g⟩).run Tryf.prog w = .ok (.value (.bool (decide (n < m)))) w := by
  simp [go_sem, h, h']
theorem x_lss {x y : Operand} {m n : Int} (h : ρ x = .int .i64 m) (h' : ρ y = .int .i64 n) : (execOp ρ ⟨dst, .binOp .lss 3 x y 3, ty, pos, after, g⟩).run Tryf.prog w = .ok (.value (.bool (decide (m < n)))) w := by
  simp [go_sem, h, h']
theorem x_geq {x y : Operand} {m n : Int} (h : ρ x = .int .i64 m) (h' : ρ y = .int .i64 n) : (execOp ρ ⟨dst, .binOp .geq 3 x y 3, ty, pos, after, g⟩).run Tryf.prog w = .ok (.value (.bool (decide (n ≤ m)))) w := by
  simp [go_sem, h, h']
theorem x_geq2 {x y : Operand} {m n : Int} (h : ρ x = .int .i64 m) (h' : ρ y = .int .i64 n) : (execOp ρ ⟨dst, .binOp .geq 2 x y 2, ty, pos, after, g⟩).run Tryf.prog w = .ok (.value (.bool (decide (n ≤ m)))) w := by
  simp [go_sem, h, h']
theorem x_eql {x y : Operand} {m n : Int} (h : ρ x = .int .i64 m) (h' : ρ y = .int .i64 n) : (execOp ρ ⟨dst, .binOp .eql 3 x y 3, ty, pos, after, g⟩).run Tryf.prog w = .ok (.value (.bool (m == n))) w := by
  simp [go_sem, h, h']
theorem x_sub {x y : Operand} {m n r : Int} (h : ρ x = .int .i64 m) (h' : ρ y = .int .i64 n) (hr : m - n = r) (h1 : 0 ≤ r) (h2 : r ≤ 1000000000) :
    (execOp ρ ⟨dst, .binOp .sub 3 x y 3, ty, pos, after, g⟩).run Tryf.prog w = .ok (.value (.int .i64 r)) w := by
  have : IntKind.i64.wrap (m - n) = r := by rw [hr, IntKind.wrap_i64]; omega
  simp [go_sem, h, h', this]
theorem x_add {x y : Operand} {m n r : Int} (h : ρ x = .int .i64 m) (h' : ρ y = .int .i64 n) (hr : m + n = r) (h1 : 0 ≤ r) (h2 : r ≤ 1000000000) :
    (execOp ρ ⟨dst, .binOp .add 3 x y 3, ty, pos, after, g⟩).run Tryf.prog w = .ok (.value (.int .i64 r)) w := by
  have : IntKind.i64.wrap (m + n) = r := by rw [hr, IntKind.wrap_i64]; omega
  simp [go_sem, h, h', this]
theorem x_add2 {x y : Operand} {m n r : Int} (h : ρ x = .int .i64 m) (h' : ρ y = .int .i64 n) (hr : m + n = r) (h1 : 0 ≤ r) (h2 : r ≤ 1000000000) :
    (execOp ρ ⟨dst, .binOp .add 2 x y 2, ty, pos, after, g⟩).run Tryf.prog w = .ok (.value (.int .i64 r)) w := by
  have : IntKind.i64.wrap (m + n) = r := by rw [hr, IntKind.wrap_i64]; omega
  simp [go_sem, h, h', this]
theorem x_mul {x y : Operand} {m n r : Int} (h : ρ x = .int .i64 m) (h' : ρ y = .int .i64 n) (hr : m * n = r) (h1 : 0 ≤ r) (h2 : r ≤ 1000000000) :
    (execOp ρ ⟨dst, .binOp .mul 3 x y 3, ty, pos, after, g⟩).run Tryf.prog w = .ok (.value (.int .i64 r)) w := by
  have : IntKind.i64.wrap (m * n) = r := by rw [hr, IntKind.wrap_i64]; omega
  simp [go_sem, h, h', this]
theorem x_half {x y : Operand} {m r : Int} (h : ρ x = .int .i64 m) (h' : ρ y = .int .i64 2) (hr : m / 2 = r) (h1 : 0 ≤ m) (h2 : m ≤ 1000000000) :
    (execOp ρ ⟨dst, .binOp .quo 3 x y 3, ty, pos, after, g⟩).run Tryf.prog w = .ok (.value (.int .i64 r)) w := by
  have h3 : m.tdiv 2 = r := by rw [Int.tdiv_eq_ediv_of_nonneg h1, hr]
  have : IntKind.i64.wrap (m.tdiv 2) = r := by rw [h3, IntKind.wrap_i64]; omega
  simp [go_sem, h, h', this]
/-- 'err != nil' · 'err == nil' -/
theorem x_neqnil {x : Operand} (h : ρ x = .nilIface) (h' : ρ (.const .nilIface) = .nilIface) : (execOp ρ ⟨dst, .binOp .neq 32 x (.const .nilIface) 32, ty, pos, after, g⟩).run Tryf.prog w = .ok (.value (.bool false)) w := by
  simp [go_sem, h, h']
theorem x_neqnil' {x : Operand} {t : TypeId} {v : Value} (h : ρ x = .iface t v) (h' : ρ (.const .nilIface) = .nilIface) : (execOp ρ ⟨dst, .binOp .neq 32 x (.const .nilIface) 32, ty, pos, after, g⟩).run Tryf.prog w = .ok (.value (.bool true)) w := by
  simp [go_sem, h, h']
theorem x_eqnil {x : Operand} (h : ρ x = .nilIface) (h' : ρ (.const .nilIface) = .nilIface) : (execOp ρ ⟨dst, .binOp .eql 32 x (.const .nilIface) 32, ty, pos, after, g⟩).run Tryf.prog w = .ok (.value (.bool true)) w := by
  simp [go_sem, h, h']
theorem x_eqnil' {x : Operand} {t : TypeId} {v : Value} (h : ρ x = .iface t v) (h' : ρ (.const .nilIface) = .nilIface) : (execOp ρ ⟨dst, .binOp .eql 32 x (.const .nilIface) 32, ty, pos, after, g⟩).run Tryf.prog w = .ok (.value (.bool false)) w := by
  simp [go_sem, h, h']
theorem x_slice {x y z : Operand} {bf off n c i j : Nat} (h : ρ x = .slice (some ⟨bf, off, none⟩) n c) (hy : ρ y = .int .i64 i) (hz : ρ z = .int .i64 j) (hij : i ≤ j) (hj : j ≤ c) :
    (execOp ρ ⟨dst, .slice 65 x (some y) (some z) none, ty, pos, after, g⟩).run Tryf.prog w = .ok (.value (.slice (some ⟨bf, if c = i then off else off + i, none⟩) (j - i) (c - i))) w := by
  by_cases hc : c = i
  · subst hc
    have : j = c := by omega
    subst this
    simp [go_sem, h, hy, hz]
  · simp [go_sem, h, hy, hz, hij, hj, hc]
theorem x_slicenil {x y z : Operand} (h : ρ x = .slice none 0 0) (hy : ρ y = .int .i64 0) (hz : ρ z = .int .i64 0) :
    (execOp ρ ⟨dst, .slice 65 x (some y) (some z) none, ty, pos, after, g⟩).run Tryf.prog w = .ok (.value (.slice none 0 0)) w := by
  simp [go_sem, h, hy, hz]
theorem x_pickT {x y z : Operand} {v : Value} (h : ρ x = .bool true) (h' : ρ y = v) : (execOp ρ ⟨dst, .pick x y z, ty, pos, after, g⟩).run Tryf.prog w = .ok (.value v) w := by
  simp [go_sem, h, h']
theorem x_pickF {x y z : Operand} {v : Value} (h : ρ x = .bool false) (h' : ρ z = v) : (execOp ρ ⟨dst, .pick x y z, ty, pos, after, g⟩).run Tryf.prog w = .ok (.value v) w := by
  simp [go_sem, h, h']
theorem x_len {x : Operand} {a : Option Addr} {n c : Nat} (h : ρ x = .slice a n c) : (execOp ρ ⟨dst, .call { callee := .builtin .len, args := #[x], argTypes := #[65] }, ty, pos, after, g⟩).run Tryf.prog w = .ok (.value (.int .i64 n)) w := by
  simp [go_sem, h]
theorem x_lenS {x : Operand} {s : ByteArray} (h : ρ x = .string s) : (execOp ρ ⟨dst, .call { callee := .builtin .len, args := #[x], argTypes := #[9] }, ty, pos, after, g⟩).run Tryf.prog w = .ok (.value (.int .i64 s.size)) w := by
  simp [go_sem, h]
theorem x_min {x y : Operand} {m n : Int} (h : ρ x = .int .i64 m) (h' : ρ y = .int .i64 n) (hle : m ≤ n) : (execOp ρ ⟨dst, .call { callee := .builtin .min, args := #[x, y], argTypes := #[3, 3] }, ty, pos, after, g⟩).run Tryf.prog w = .ok (.value (.int .i64 m)) w := by
  have : ¬ n < m := by omega
  simp [go_sem, h, h', Builtin.min_, Builtin.min2, this]
theorem x_not {x : Operand} {b : Bool} (h : ρ x = .bool b) : (execOp ρ ⟨dst, .unOp .not 4 x, ty, pos, after, g⟩).run Tryf.prog w = .ok (.value (.bool !b)) w := by
  simp [go_sem, h]
theorem x_ext {x : Operand} {vs : Array Value} {i : Nat} {v : Value} (h : ρ x = .tuple vs) (hv : vs[i]? = some v) : (execOp ρ ⟨dst, .extract x i, ty, pos, after, g⟩).run Tryf.prog w = .ok (.value v) w := by
  simp [go_sem, h, hv]
theorem x_toknil {x y : Operand} (h : ρ x = .slice none 0 0) (h' : ρ y = .slice none 0 0) : (execOp ρ ⟨dst, .binOp .neq 65 x y 65, ty, pos, after, g⟩).run Tryf.prog w = .ok (.value (.bool false)) w := by
  simp [go_sem, h, h', run_neq_slice_nil_any _ 65 5 _ _ _ _ _ Tryf.underlying65]
theorem x_tok {x y : Operand} {a : Addr} {n c : Nat} (h : ρ x = .slice (some a) n c) (h' : ρ y = .slice none 0 0) : (execOp ρ ⟨dst, .binOp .neq 65 x y 65, ty, pos, after, g⟩).run Tryf.prog w = .ok (.value (.bool true)) w := by
  simp [go_sem, h, h', run_neq_slice_nil_any _ 65 5 _ _ _ _ _ Tryf.underlying65]
theorem run_call_go {f : FuncId} {fn : Func} (hf : Tryf.prog.funcs[f]? = some fn) (hb : fn.body.isNone = false) (hn : (fn.name == "runtime.NumGoroutine") = false) (vs : Array Value) : (callFunc f vs).run Tryf.prog w = .ok (.enter f vs) w := by
  simp only [callFunc, Sem.run_bind, run_program, Result.andThen, hf, hn, hb]
  rfl
theorem x_call0 {f : FuncId} {fn : Func} {ats : Array TypeId} (hf : Tryf.prog.funcs[f]? = some fn) (hb : fn.body.isNone = false) (hn : (fn.name == "runtime.NumGoroutine") = false)
    (hρ : ρ (.func f) = .func (.func f) #[] #[]) :
    (execOp ρ ⟨dst, .call { callee := .value (.func f), args := #[], argTypes := ats }, ty, pos, after, g⟩).run Tryf.prog w = .ok (.enter f #[]) w := by
  simp [execOp, resolve, hρ, Deferred.ofValue, invoke, run_call_go hf hb hn]
theorem x_call1 {f : FuncId} {fn : Func} {x : Operand} {ats : Array TypeId} {v0 : Value} (hf : Tryf.prog.funcs[f]? = some fn) (hb : fn.body.isNone = false) (hn : (fn.name == "runtime.NumGoroutine") = false)
    (hρ : ρ (.func f) = .func (.func f) #[] #[]) (h0 : ρ x = v0) :
    (execOp ρ ⟨dst, .call { callee := .value (.func f), args := #[x], argTypes := ats }, ty, pos, after, g⟩).run Tryf.prog w = .ok (.enter f #[v0]) w := by
  simp [execOp, resolve, hρ, h0, Deferred.ofValue, invoke, run_call_go hf hb hn]
theorem x_call2 {f : FuncId} {fn : Func} {x y : Operand} {ats : Array TypeId} {v0 v1 : Value} (hf : Tryf.prog.funcs[f]? = some fn) (hb : fn.body.isNone = false) (hn : (fn.name == "runtime.NumGoroutine") = false)
    (hρ : ρ (.func f) = .func (.func f) #[] #[]) (h0 : ρ x = v0) (h1 : ρ y = v1) :
    (execOp ρ ⟨dst, .call { callee := .value (.func f), args := #[x, y], argTypes := ats }, ty, pos, after, g⟩).run Tryf.prog w = .ok (.enter f #[v0, v1]) w := by
  simp [execOp, resolve, hρ, h0, h1, Deferred.ofValue, invoke, run_call_go hf hb hn]
theorem x_call3 {f : FuncId} {fn : Func} {x y z : Operand} {ats : Array TypeId} {v0 v1 v2 : Value} (hf : Tryf.prog.funcs[f]? = some fn) (hb : fn.body.isNone = false) (hn : (fn.name == "runtime.NumGoroutine") = false)
    (hρ : ρ (.func f) = .func (.func f) #[] #[]) (h0 : ρ x = v0) (h1 : ρ y = v1) (h2 : ρ z = v2) :
    (execOp ρ ⟨dst, .call { callee := .value (.func f), args := #[x, y, z], argTypes := ats }, ty, pos, after, g⟩).run Tryf.prog w = .ok (.enter f #[v0, v1, v2]) w := by
  simp [execOp, resolve, hρ, h0, h1, h2, Deferred.ofValue, invoke, run_call_go hf hb hn]
/-- A call of a function value that lies in a slot. -/
theorem x_callv2 {f : FuncId} {fn : Func} {z x y : Operand} {ats : Array TypeId} {caps : Array Value} {v0 v1 : Value} (hf : Tryf.prog.funcs[f]? = some fn) (hb : fn.body.isNone = false) (hn : (fn.name == "runtime.NumGoroutine") = false)
    (hρ : ρ z = .func (.func f) #[] caps) (h0 : ρ x = v0) (h1 : ρ y = v1) :
    (execOp ρ ⟨dst, .call { callee := .value z, args := #[x, y], argTypes := ats }, ty, pos, after, g⟩).run Tryf.prog w = .ok (.enter f (#[v0, v1] ++ caps)) w := by
  simp [execOp, resolve, hρ, h0, h1, Deferred.ofValue, invoke, run_call_go hf hb hn]
theorem x_callv2n {f : FuncId} {fn : Func} {z x y : Operand} {ats : Array TypeId} {v0 v1 : Value} (hf : Tryf.prog.funcs[f]? = some fn) (hb : fn.body.isNone = false) (hn : (fn.name == "runtime.NumGoroutine") = false)
    (hρ : ρ z = .func (.func f) #[] #[]) (h0 : ρ x = v0) (h1 : ρ y = v1) :
    (execOp ρ ⟨dst, .call { callee := .value z, args := #[x, y], argTypes := ats }, ty, pos, after, g⟩).run Tryf.prog w = .ok (.enter f #[v0, v1]) w := by
  simp [execOp, resolve, hρ, h0, h1, Deferred.ofValue, invoke, run_call_go hf hb hn]
theorem run_method_read (a : Addr) (w : World) : (method (129 + Made.depth) 43 (.pointer (some a)) "Read").run Tryf.prog w = .ok (59, .pointer (some a)) w := by kernel_rfl
/-- 'r.Read(b)', r a *strings.Reader behind an io.Reader -/
theorem x_read {x y : Operand} {ats : Array TypeId} {a : Addr} {v : Value} (h : ρ x = .iface 43 (.pointer (some a))) (h' : ρ y = v) :
    (execOp ρ ⟨dst, .call { callee := .invoke x "Read", args := #[y], argTypes := ats }, ty, pos, after, g⟩).run Tryf.prog w = .ok (.enter 59 #[.pointer (some a), v]) w := by
  simp [execOp, resolve, h, h', invoke, callMethod, run_method_read a w, run_call_go Tryf.func59 (by kernel_rfl) (by kernel_rfl)]
/-- 'b[i:j]' of a slice that begins at its block's head -/
theorem x_slice00 {x y z : Operand} {bf n c i j : Nat} (h : ρ x = .slice (some ⟨bf, 0, none⟩) n c) (hy : ρ y = .int .i64 (i : Nat)) (hz : ρ z = .int .i64 (j : Nat)) (hij : i ≤ j) (hj : j ≤ c) (hi : i < c) :
    (execOp ρ ⟨dst, .slice 65 x (some y) (some z) none, ty, pos, after, g⟩).run Tryf.prog w = .ok (.value (.slice (some ⟨bf, i, none⟩) (j - i) (c - i))) w := by
  have := x_slice (ρ := ρ) (dst := dst) (ty := ty) (pos := pos) (after := after) (g := g) (w := w) h hy hz hij hj
  rw [if_neg (by omega), Nat.zero_add] at this
  exact this
/-- .. empty, wherever it lies -/
theorem x_sliceE {x y z : Operand} {bf n c i : Nat} (h : ρ x = .slice (some ⟨bf, 0, none⟩) n c) (hy : ρ y = .int .i64 (i : Nat)) (hz : ρ z = .int .i64 (i : Nat)) (hi : i ≤ c) :
    (execOp ρ ⟨dst, .slice 65 x (some y) (some z) none, ty, pos, after, g⟩).run Tryf.prog w = .ok (.value (.slice (some ⟨bf, if c = i then 0 else i, none⟩) 0 (c - i))) w := by
  have := x_slice (ρ := ρ) (dst := dst) (ty := ty) (pos := pos) (after := after) (g := g) (w := w) h hy hz (Nat.le_refl _) hi
  rw [Nat.sub_self, Nat.zero_add] at this
  exact this
theorem x_indexAddr {x y : Operand} {T e : TypeId} {b off n c i : Nat} (hT : Tryf.prog.underlying T = some (.slice e)) (hs : (sizeOf e).run Tryf.prog w = .ok 1 w) (h : ρ x = .slice (some ⟨b, off, none⟩) n c) (h' : ρ y = .int .i64 (i : Nat)) (hi : i < n) :
    (execOp ρ ⟨dst, .indexAddr T x y, ty, pos, after, g⟩).run Tryf.prog w = .ok (.value (.pointer (some ⟨b, off + i, none⟩))) w := by
  have h1 : (0 : Int) ≤ (i : Int) ∧ (i : Int) < (n : Int) := by omega
  have h2 : (⟨b, off, none⟩ : Addr).add i = ⟨b, off + i, none⟩ := by unfold Addr.add; split <;> simp_all
  simp [execOp, h, h', Instr.indexAt, asIntOf, run_underlying hT, hs, h1, h2]
  omega
theorem x_eqlu8 {x y : Operand} {m n : Int} (h : ρ x = .int .u8 m) (h' : ρ y = .int .u8 n) : (execOp ρ ⟨dst, .binOp .eql 5 x y 5, ty, pos, after, g⟩).run Tryf.prog w = .ok (.value (.bool (m == n))) w := by
  simp [go_sem, h, h']
theorem x_slice0 {x y z : Operand} {bf off n c j : Nat} (h : ρ x = .slice (some ⟨bf, off, none⟩) n c) (hy : ρ y = .int .i64 0) (hz : ρ z = .int .i64 (j : Nat)) (hj : j ≤ c) :
    (execOp ρ ⟨dst, .slice 65 x (some y) (some z) none, ty, pos, after, g⟩).run Tryf.prog w = .ok (.value (.slice (some ⟨bf, off, none⟩) j c)) w := by
  have := x_slice (ρ := ρ) (dst := dst) (ty := ty) (pos := pos) (after := after) (g := g) (w := w) (i := 0) h hy hz (Nat.zero_le _) hj
  simpa using this
end

/-! ### Bytes in memory -/
def byteV (b : UInt8) : Value := .int .u8 (b.toNat : Nat)
def Bytes (w : World) (b off : Nat) (xs : List UInt8) : Prop := ∀ j, j < xs.length → w.cell? ⟨b, off + j, none⟩ = some (byteV (xs.getD j 0))

theorem Bytes.of_block {w : World} {b off : Nat} {bs : List UInt8} {ty : TypeId} (h : Blk w b (bs.map byteV).toArray ty) (k : Nat) : Bytes w b off ((bs.drop off).take k) := by
  intro j hj
  have h1 : j < k := by simp at hj; omega
  have h2 : off + j < bs.length := by simp at hj; omega
  rw [h.cell]
  simp [h1, h2]
theorem Bytes.take {w : World} {b off : Nat} {xs : List UInt8} (h : Bytes w b off xs) (k : Nat) : Bytes w b off (xs.take k) := by
  intro j hj
  have h1 : j < k := by simp at hj; omega
  have h2 : j < xs.length := by simp at hj; omega
  rw [h j h2]
  simp [h1, h2]

theorem bytesOf_bytes (xs : List UInt8) : Lib.bytesOf (xs.map fun b => ((b.toNat : Nat) : Int)) = xs := by
  unfold Lib.bytesOf
  rw [List.map_map]
  conv => rhs; rw [← List.map_id xs]
  refine List.map_congr_left fun b _ => ?_
  simp

section
variable {ρ : Operand → Value} {dst : Option Tmp} {ty : TypeId} {pos : String} {after : Array Edge} {g : Option (Nat × Bool)} {w : World}
/-- bytealg.IndexByte. -/
theorem x_indexByte {x y : Operand} {ats : Array TypeId} {b off n c : Nat} {xs : List UInt8} (hρ : ρ (.func 42) = .func (.func 42) #[] #[]) (h : ρ x = .slice (some ⟨b, off, none⟩) n c) (h' : ρ y = .int .u8 10) (hn : xs.length = n) (hb : Bytes w b off xs) :
    (execOp ρ ⟨dst, .call { callee := .value (.func 42), args := #[x, y], argTypes := ats }, ty, pos, after, g⟩).run Tryf.prog w = .ok (.value (.int .i64 (Lib.indexByte xs 10))) w := by
  have h1 := Lib.run_indexByteSlice (P := Tryf.prog) w b off n c (xs.map fun b => ((b.toNat : Nat) : Int)) (by simpa using hn) (fun i hi => by
    rw [hb i (by omega)]
    have hi' : i < xs.length := by omega
    simp [byteV, hi']) 10
  have h2 := run_callFunc_indexByte (P := Tryf.prog) Tryf.func42 (by kernel_rfl) (by kernel_rfl) (by kernel_rfl) (by kernel_rfl) #[.slice (some ⟨b, off, none⟩) n c, .int .u8 10] w
  rw [h1] at h2
  rw [bytesOf_bytes] at h2
  simp [execOp, resolve, hρ, h, h', Deferred.ofValue, invoke, h2]
theorem x_sliceS {x y : Operand} {s : ByteArray} {i : Nat} (h : ρ x = .string s) (h' : ρ y = .int .i64 (i : Nat)) (hi : i ≤ s.size) :
    (execOp ρ ⟨dst, .slice 9 x (some y) none none, ty, pos, after, g⟩).run Tryf.prog w = .ok (.value (.string (s.extract i s.size))) w := by
  simp [go_sem, h, h', hi]

theorem oneCell_bytes (ys : List UInt8) : ∀ v ∈ ys.map byteV, v.oneCell' = true := by
  intro v hv
  obtain ⟨b, _, rfl⟩ := List.mem_map.1 hv
  rfl
theorem splice_bytes (bs ys : List UInt8) (off : Nat) : ((bs.map byteV).toArray.toList.take off ++ ys.map byteV ++ (bs.map byteV).toArray.toList.drop (off + (ys.map byteV).length)).toArray = ((bs.take off ++ ys ++ bs.drop (off + ys.length)).map byteV).toArray := by
  simp [List.map_take, List.map_drop]
/-- 'copy(b, string)' -/
theorem x_copyS {x y : Operand} {bf off m c : Nat} {t : ByteArray} {bs ys : List UInt8} (h : ρ x = .slice (some ⟨bf, off, none⟩) m c) (h' : ρ y = .string t) (hb : Blk w bf (bs.map byteV).toArray 5)
    (hys : ys = t.data.toList.take m) (hfit : off + ys.length ≤ bs.length) :
    (execOp ρ ⟨dst, .call { callee := .builtin .copy, args := #[x, y], argTypes := #[65, 9] }, ty, pos, after, g⟩).run Tryf.prog w =
      .ok (.value (.int .i64 (ys.length : Nat))) (w.setRow bf ((bs.take off ++ ys ++ bs.drop (off + ys.length)).map byteV).toArray) := by
  have hst := run_storeCells_at Tryf.prog bf off 5 (ys.map byteV) 0 _ w hb (by simpa using hfit) (oneCell_bytes ys)
  have hlen : Nat.min t.size m = ys.length := by
    have h1 : t.data.toList.length = t.size := rfl
    rw [hys, List.length_take, h1]
    exact Nat.min_comm _ _
  have hc : List.take ys.length (List.map (fun b : UInt8 => Value.int .u8 ((b.toNat : Nat) : Int)) t.data.toList) = ys.map byteV := by
    rw [← List.map_take]
    have e : List.take ys.length t.data.toList = ys := by
      rw [hys, List.length_take, List.take_eq_take_iff]
      omega
    rw [e]
    rfl
  rw [Nat.add_zero, splice_bytes] at hst
  generalize w.setRow bf ((bs.take off ++ ys ++ bs.drop (off + ys.length)).map byteV).toArray = W' at hst ⊢
  simp only [BigFrame.execOp_builtin, BigFrame.builtin_copy]
  simp [Builtin.copy_, h, h', run_underlying Tryf.underlying65, Builtin.lenOf, Builtin.firstCells, Tryf.sizeOf5, hlen]
  rw [hc, hst]
  rfl
/-- 'copy(b, c)' -/
theorem x_copyB {x y : Operand} {bf off m c b2 o2 k c2 : Nat} {bs ys : List UInt8} (h : ρ x = .slice (some ⟨bf, off, none⟩) m c) (h' : ρ y = .slice (some ⟨b2, o2, none⟩) k c2) (hb : Blk w bf (bs.map byteV).toArray 5)
    (hy : Bytes w b2 o2 ys) (hys : ys.length = Nat.min k m) (hfit : off + ys.length ≤ bs.length) :
    (execOp ρ ⟨dst, .call { callee := .builtin .copy, args := #[x, y], argTypes := #[65, 65] }, ty, pos, after, g⟩).run Tryf.prog w =
      .ok (.value (.int .i64 (ys.length : Nat))) (w.setRow bf ((bs.take off ++ ys ++ bs.drop (off + ys.length)).map byteV).toArray) := by
  have hr := run_copy_row Tryf.prog w 65 65 ty 5 bf off m c ⟨b2, o2, none⟩ k c2 _ 5 (ys.map byteV) Tryf.underlying65 (by kernel_rfl) hb (by simpa using hys) (fun j v hj => by
    have hjl : j < ys.length := by
      rcases Nat.lt_or_ge j ys.length with h1 | h1
      · exact h1
      · rw [List.getElem?_eq_none (by simpa using h1)] at hj; cases hj
    have e : (⟨b2, o2, none⟩ : Addr).add j = ⟨b2, o2 + j, none⟩ := by unfold Addr.add; split <;> simp_all
    rw [e, hy j hjl, ← hj]
    simp [hjl]) (by simpa using hfit) (oneCell_bytes ys)
  rw [splice_bytes] at hr
  simp only [BigFrame.execOp_builtin, BigFrame.builtin_copy]
  simp [h, h', hr, goInt]
/-- 'copy(b, nil)' -/
theorem x_copyN {x y : Operand} {bf off m c : Nat} (h : ρ x = .slice (some ⟨bf, off, none⟩) m c) (h' : ρ y = .slice none 0 0) :
    (execOp ρ ⟨dst, .call { callee := .builtin .copy, args := #[x, y], argTypes := #[65, 65] }, ty, pos, after, g⟩).run Tryf.prog w = .ok (.value (.int .i64 0)) w := by
  have hr := run_copy_none (P := Tryf.prog) w 65 65 ty 5 (some ⟨bf, off, none⟩) none m c 0 0 Tryf.underlying65 (by kernel_rfl) (Nat.zero_min _)
  simp only [BigFrame.execOp_builtin, BigFrame.builtin_copy]
  simp [h, h', hr, goInt]
/-- 'make([]byte, n)' -/
theorem x_make {x y : Operand} {n : Nat} (h : ρ x = .int .i64 (n : Nat)) (h' : ρ y = .int .i64 (n : Nat)) (hn : n ≤ 1000000000) :
    (execOp ρ ⟨dst, .makeSlice 65 x y, ty, pos, after, g⟩).run Tryf.prog w = .ok (.value (.slice (some ⟨w.heap.size, 0, none⟩) n n)) (w.alloc (.cells ((List.replicate n 0).map byteV).toArray 5)) := by
  have hr := run_make (P := Tryf.prog) w 65 5 Tryf.t5 (.int .u8 0) Tryf.underlying65 (by kernel_rfl) (by kernel_rfl) .i64 .i64 n n (by omega) (by omega) (by show ((1 : Nat) : Int) * n ≤ _; omega) (by omega)
  have hc : madeCells (Value.cells (.int .u8 0)) (((n : Nat) : Int).toNat * Tryf.t5.size) = ((List.replicate n 0).map byteV).toArray := by
    apply Array.ext_getElem?
    intro i
    have e : Tryf.t5.size = 1 := by kernel_rfl
    rw [e]
    by_cases hi : i < n
    · simp [madeCells, Value.cells, byteV, hi, Nat.mod_one]
    · simp [madeCells, Value.cells, hi]
  rw [hc] at hr
  simp [execOp, h, h', hr]
end

theorem Blk.setRow {w : World} {b : Nat} {cs cs' : Array Value} {ty : TypeId} (h : Blk w b cs ty) : Blk (w.setRow b cs') b cs' ty := setRow_heap w b cs cs' ty _ h
theorem Blk.setRow_ne {w : World} {b c : Nat} {cs cs' : Array Value} {ty : TypeId} (h : Blk w b cs ty) (hne : b ≠ c) : Blk (w.setRow c cs') b cs ty := h.of_eq (setRow_other w c b cs' hne)
theorem Blk.alloc {w : World} {b : Nat} {cs : Array Value} {ty : TypeId} (h : Blk w b cs ty) (o : Obj) : Blk (w.alloc o) b cs ty := h.of_eq (Below.heap_alloc _ _ _ h.lt)
theorem Blk.alloc_new (w : World) (cs : Array Value) (ty : TypeId) : Blk (w.alloc (.cells cs ty)) w.heap.size cs ty := by
  show (w.heap.push _)[w.heap.size]? = _
  simp
end Go.Proofs.Qxb6613145aFmt
