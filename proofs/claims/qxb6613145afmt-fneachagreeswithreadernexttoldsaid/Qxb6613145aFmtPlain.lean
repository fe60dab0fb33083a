/-
  PLAIN LAWS ON LISTS OF BYTES: lines. No Go in it.
-/
import Derived.Lib.IndexLaws
namespace Go.Proofs.Qxb6613145aFmt

/-- One trailing '\r' is dropped. -/
def dropCRl (l : List UInt8) : List UInt8 := if l.getLast? = some 13 then l.dropLast else l
/-- The lines of 'l', 'cur' being what the line has so far. -/
def splitL : List UInt8 → List UInt8 → List (List UInt8)
  | [], cur => if cur = [] then [] else [dropCRl cur]
  | b :: l, cur => if b = 10 then dropCRl cur :: splitL l [] else splitL l (cur ++ [b])
def linesOf (l : List UInt8) : List (List UInt8) := splitL l []
/-- The first line, raw; what follows it. -/
def lineOf (l : List UInt8) : List UInt8 := l.takeWhile (· != 10)
def restOf (l : List UInt8) : List UInt8 := (l.dropWhile (· != 10)).drop 1

theorem dropCRl_length_le (l : List UInt8) : (dropCRl l).length ≤ l.length := by
  unfold dropCRl; split <;> simp
theorem dropCRl_prefix (l : List UInt8) : dropCRl l = l.take (dropCRl l).length := by
  unfold dropCRl
  split
  · rw [List.dropLast_eq_take]; simp
  · simp

theorem splitL_line : ∀ (l cur : List UInt8), l ≠ [] ∨ cur ≠ [] → splitL l cur = dropCRl (cur ++ lineOf l) :: linesOf (restOf l)
  | [], cur, h => by
    have hc : cur ≠ [] := h.resolve_left (fun h => h rfl)
    simp [splitL, hc, lineOf, restOf, linesOf]
  | b :: l, cur, _ => by
    by_cases hb : b = 10
    · subst hb
      simp [splitL, lineOf, restOf, linesOf]
    · have ih := splitL_line l (cur ++ [b]) (.inr (by simp))
      have hb' : (b != 10) = true := by simp [hb]
      simp only [splitL, if_neg hb, ih]
      simp [lineOf, restOf, hb']

theorem linesOf_nil : linesOf [] = [] := rfl
theorem linesOf_cons {l : List UInt8} (h : l ≠ []) : linesOf l = dropCRl (lineOf l) :: linesOf (restOf l) := by
  have := splitL_line l [] (.inl h)
  simpa [linesOf] using this

theorem restOf_lt {l : List UInt8} (h : l ≠ []) : (restOf l).length < l.length := by
  unfold restOf
  have h1 : (l.dropWhile (· != 10)).length ≤ l.length := (List.dropWhile_sublist _).length_le
  have h2 : 0 < l.length := List.length_pos_iff.2 h
  simp
  omega

/-- A newline at place j, none ahead of it. -/
theorem line_at {l xs : List UInt8} {j : Nat} (hx : xs[j]? = some 10) (hn : ∀ k, k < j → xs[k]? ≠ some 10) : lineOf (xs ++ l) = xs.take j ∧ restOf (xs ++ l) = xs.drop (j + 1) ++ l := by
  induction xs generalizing j with
  | nil => simp at hx
  | cons b xs ih =>
    cases j with
    | zero =>
      simp at hx
      subst hx
      simp [lineOf, restOf]
    | succ j =>
      have hb : b ≠ 10 := fun e => hn 0 (by omega) (by simp [e])
      have hb' : (b != 10) = true := by simp [hb]
      have h2 := ih (j := j) (by simpa using hx) (fun k hk => by simpa using hn (k + 1) (by omega))
      simp only [lineOf, restOf, List.cons_append, List.takeWhile_cons, List.dropWhile_cons, hb', if_true] at h2 ⊢
      refine ⟨by rw [h2.1]; simp, by rw [h2.2]; simp⟩
/-- No newline. -/
theorem line_none {xs : List UInt8} (hn : ∀ k : Nat, xs[k]? ≠ some 10) : lineOf xs = xs ∧ restOf xs = [] := by
  induction xs with
  | nil => simp [lineOf, restOf]
  | cons b xs ih =>
    have hb : b ≠ 10 := fun e => hn 0 (by simp [e])
    have hb' : (b != 10) = true := by simp [hb]
    have h2 := ih (fun k => by simpa using hn (k + 1))
    simp only [lineOf, restOf, List.takeWhile_cons, List.dropWhile_cons, hb', if_true] at h2 ⊢
    exact ⟨by rw [h2.1], h2.2⟩

end Go.Proofs.Qxb6613145aFmt
