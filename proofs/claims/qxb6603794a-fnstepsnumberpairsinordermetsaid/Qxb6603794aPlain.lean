/-
  PLAIN FACTS: a row of pairs of numbers laid out in cells; the list of pairs met, and the number of each.
-/
import Derived.WalkKit
namespace Go.Proofs.Qxb6603794a
open Go.RowKit

/-- The cells of n pairs: A i, then V i. -/
def prs : Nat → (Nat → Int) → (Nat → Int) → List Value
  | 0, _, _ => []
  | n + 1, A, V => prs n A V ++ [.int .i32 (A n), .int .i32 (V n)]

theorem prs_length (n : Nat) (A V : Nat → Int) : (prs n A V).length = n * 2 := by
  induction n with
  | zero => rfl
  | succ n ih => simp [prs, ih]; omega

theorem prs_get0 (n : Nat) (A V : Nat → Int) (i : Nat) (h : i < n) : (prs n A V)[i * 2]? = some (.int .i32 (A i)) := by
  induction n with
  | zero => omega
  | succ n ih =>
    have hl := prs_length n A V
    by_cases e : i = n
    · subst e
      rw [prs, List.getElem?_append_right (by omega), hl]
      simp
    · rw [prs, List.getElem?_append_left (by omega)]
      exact ih (by omega)

theorem prs_get1 (n : Nat) (A V : Nat → Int) (i : Nat) (h : i < n) : (prs n A V)[i * 2 + 1]? = some (.int .i32 (V i)) := by
  induction n with
  | zero => omega
  | succ n ih =>
    have hl := prs_length n A V
    by_cases e : i = n
    · subst e
      rw [prs, List.getElem?_append_right (by omega), hl]
      simp
    · rw [prs, List.getElem?_append_left (by omega)]
      exact ih (by omega)

theorem prs_get (n : Nat) (A V : Nat → Int) (j : Nat) (v : Value) (h : (prs n A V)[j]? = some v) :
    ∃ i, i < n ∧ ((j = i * 2 ∧ v = .int .i32 (A i)) ∨ (j = i * 2 + 1 ∧ v = .int .i32 (V i))) := by
  have hj : j < n * 2 := by
    have := (List.getElem?_eq_some_iff.1 h).1
    rwa [prs_length] at this
  rcases (show j = (j / 2) * 2 ∨ j = (j / 2) * 2 + 1 by omega) with e | e
  · refine ⟨j / 2, by omega, .inl ⟨e, ?_⟩⟩
    rw [e, prs_get0 n A V (j / 2) (by omega)] at h
    exact (Option.some.inj h).symm
  · refine ⟨j / 2, by omega, .inr ⟨e, ?_⟩⟩
    rw [e, prs_get1 n A V (j / 2) (by omega)] at h
    exact (Option.some.inj h).symm

theorem prs_congr (n : Nat) (A V A' V' : Nat → Int) (h : ∀ i, i < n → A i = A' i ∧ V i = V' i) : prs n A V = prs n A' V' := by
  induction n with
  | zero => rfl
  | succ n ih => rw [prs, prs, ih (fun i hi => h i (by omega)), (h n (by omega)).1, (h n (by omega)).2]

theorem prs_set (n : Nat) (A V : Nat → Int) (i : Nat) (h : i < n) (x y : Int) :
    ((prs n A V).set (i * 2) (.int .i32 x)).set (i * 2 + 1) (.int .i32 y) = prs n (fun j => if j = i then x else A j) (fun j => if j = i then y else V j) := by
  induction n with
  | zero => omega
  | succ n ih =>
    have hl := prs_length n A V
    by_cases e : i = n
    · subst e
      have h1 : prs i (fun j => if j = i then x else A j) (fun j => if j = i then y else V j) = prs i A V :=
        prs_congr _ _ _ _ _ (fun j hj => by simp [Nat.ne_of_lt hj])
      rw [prs, prs, h1]
      simp only [if_true]
      rw [List.set_append, if_neg (by omega), List.set_append, if_neg (by omega), hl]
      simp
    · rw [prs, prs, ← ih (by omega)]
      have hn : n ≠ i := by omega
      simp only [if_neg hn]
      rw [List.set_append, if_pos (by omega), List.set_append, if_pos (by rw [List.length_set]; omega)]

theorem prs_one (n : Nat) (A V : Nat → Int) : ∀ v ∈ prs n A V, v.oneCell' = true := by
  intro v hv
  obtain ⟨j, hj⟩ := List.getElem?_of_mem hv
  obtain ⟨i, _, h⟩ := prs_get n A V j v hj
  rcases h with ⟨_, rfl⟩ | ⟨_, rfl⟩ <;> rfl

end Go.Proofs.Qxb6603794a
