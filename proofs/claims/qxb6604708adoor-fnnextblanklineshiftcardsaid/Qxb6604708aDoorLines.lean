/-
  seat b6604708aD: plain: the lines of a text, what is kept of them, the next one that is not blank. No Go in sight.
-/
import Derived.Test.Qxb6604708aDoorLine
import Derived.Lib.SlTrimSet
namespace Go.Proofs.Qxb6604708aDoor
open Go Go.RowKit

theorem stepOf_pos {T : List UInt8} (h : T ≠ []) : 0 < stepOf T := by
  unfold stepOf
  have : 0 < T.length := List.length_pos_iff.2 h
  omega

theorem stepOf_le (T : List UInt8) : stepOf T ≤ T.length := by
  unfold stepOf
  omega

/-- The physical lines. -/
def physOf (T : List UInt8) : List (List UInt8) := if _h : T = [] then [] else lineOf T :: physOf (T.drop (stepOf T))
termination_by T.length
decreasing_by
  rw [List.length_drop]
  have := stepOf_pos _h
  have : 0 < T.length := List.length_pos_iff.2 _h
  omega

theorem physOf_nil : physOf [] = [] := by unfold physOf; simp
theorem physOf_cons {T : List UInt8} (h : T ≠ []) : physOf T = lineOf T :: physOf (T.drop (stepOf T)) := by
  conv => lhs; unfold physOf
  rw [dif_neg h]

theorem physOf_length (n : Nat) : ∀ T : List UInt8, T.length = n → (physOf T).length ≤ T.length := by
  induction n using Nat.strongRecOn with
  | ind n ih =>
    intro T hT
    by_cases h : T = []
    · subst h; rw [physOf_nil]; simp
    · rw [physOf_cons h, List.length_cons]
      have h1 := stepOf_pos h
      have h2 := stepOf_le T
      have := ih (T.drop (stepOf T)).length (by rw [List.length_drop]; omega) _ rfl
      rw [List.length_drop] at this
      omega

/-- What is kept of each. -/
def kept (L : Nat) (T : List UInt8) : List (List UInt8) := (physOf T).map (·.take L)
theorem kept_nil (L : Nat) : kept L [] = [] := by unfold kept; rw [physOf_nil]; rfl
theorem kept_cons (L : Nat) {T : List UInt8} (h : T ≠ []) : kept L T = (lineOf T).take L :: kept L (T.drop (stepOf T)) := by unfold kept; rw [physOf_cons h]; rfl
theorem kept_length (L : Nat) (T : List UInt8) : (kept L T).length ≤ T.length := by unfold kept; rw [List.length_map]; exact physOf_length _ T rfl

/-- Something but spaces. -/
def nonBlank (b : List UInt8) : Bool := b.any (fun x => x != 32)

/-- The next line that is not blank, the count of lines so far, what is left. -/
def nextK : List (List UInt8) → Nat → Option (List UInt8) × Nat × List (List UInt8)
  | [], n => (none, n, [])
  | x :: R, n => if nonBlank x = true then (some x, n + 1, R) else nextK R (n + 1)

theorem dw_nil {p : UInt8 → Bool} : ∀ {l : List UInt8}, (∀ x ∈ l, p x = true) → l.dropWhile p = []
  | [], _ => rfl
  | a :: r, h => by
    rw [List.dropWhile_cons, if_pos (h a (by simp))]
    exact dw_nil (fun x hx => h x (by simp [hx]))
theorem dw_all {p : UInt8 → Bool} : ∀ {l : List UInt8}, (∀ x ∈ l.dropWhile p, p x = true) → ∀ x ∈ l, p x = true
  | [], _, x, hx => by cases hx
  | a :: r, h, x, hx => by
    by_cases ha : p a = true
    · rw [List.dropWhile_cons, if_pos ha] at h
      rcases List.mem_cons.1 hx with rfl | hx
      · exact ha
      · exact dw_all h x hx
    · rw [List.dropWhile_cons, if_neg ha] at h
      exact h x hx

theorem trim_blank (l : List UInt8) : 0 < (Lib.trimS l [32]).length ↔ nonBlank l = true := by
  have key : Lib.trimS l [32] = [] ↔ ∀ x ∈ l, ([32] : List UInt8).contains x = true := by
    unfold Lib.trimS Lib.trimLeftS
    constructor
    · intro h x hx
      have h1 : ∀ y ∈ Lib.trimRightS l [32], ([32] : List UInt8).contains y = true := dw_all (fun y hy => by rw [h] at hy; cases hy)
      unfold Lib.trimRightS at h1
      exact dw_all (l := l.reverse) (fun y hy => h1 y (List.mem_reverse.2 hy)) x (List.mem_reverse.2 hx)
    · intro h
      refine dw_nil (fun x hx => h x ?_)
      rw [Lib.trimRightS_eq_take] at hx
      exact List.mem_of_mem_take hx
  rw [List.length_pos_iff, ne_eq, key]
  unfold nonBlank
  simp
end Go.Proofs.Qxb6604708aDoor
