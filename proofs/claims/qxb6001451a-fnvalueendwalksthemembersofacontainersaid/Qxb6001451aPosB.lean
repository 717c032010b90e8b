/-
  LAW B's PLACES (seat b6001451a): where the members of a container stand in its text.
-/
import Derived.Test.Qxb6001451aPlain
namespace Go.Proofs.Qxb6001451a.Pl

/-- What stands behind member k-1: a comma and the next members; or the closing bracket. -/
def restAt {α : Type} (F : α → List Int) (cl : Int) (items : List α) (k : Nat) : List Int := joinA F false (items.drop k) ++ [cl]

theorem rest_more {α : Type} (F : α → List Int) (cl : Int) (items : List α) (k : Nat) (h : k < items.length) : restAt F cl items k = 44 :: (F items[k] ++ restAt F cl items (k + 1)) := by
  unfold restAt
  rw [List.drop_eq_getElem_cons h]
  simp [joinA]
theorem rest_end {α : Type} (F : α → List Int) (cl : Int) (items : List α) (k : Nat) (h : items.length ≤ k) : restAt F cl items k = [cl] := by
  unfold restAt
  rw [List.drop_eq_nil_of_le h]
  simp [joinA]
theorem rest_start {α : Type} (F : α → List Int) (o cl : Int) (items : List α) (h : 0 < items.length) : (o :: (joinA F true items ++ [cl])).drop 1 = F items[0] ++ restAt F cl items 1 := by
  cases items with
  | nil => simp at h
  | cons x t => simp [joinA, restAt]

/-- A piece A stands at place i, R behind it. -/
theorem seg_end {zs A R : List Int} {i : Nat} (h : zs.drop i = A ++ R) (hne : A ≠ [] ∨ R ≠ []) : i + A.length ≤ zs.length ∧ zs.drop (i + A.length) = R := by
  have hl := congrArg List.length h
  simp only [List.length_drop, List.length_append] at hl
  have hp : 0 < A.length + R.length := by
    rcases hne with h | h
    · have := List.length_pos_iff.2 h; omega
    · have := List.length_pos_iff.2 h; omega
  refine ⟨by omega, ?_⟩
  rw [← List.drop_drop, h, List.drop_left]
theorem seg_head {zs R : List Int} {i : Nat} {c : Int} (h : zs.drop i = c :: R) : i < zs.length ∧ zs.getD i 0 = c ∧ zs.drop (i + 1) = R := by
  have hi : i < zs.length := drop_lt fun e => by simp [e] at h
  rw [List.drop_eq_getElem_cons hi] at h
  simp only [List.cons.injEq] at h
  exact ⟨hi, by simp [List.getD, hi, h.1], h.2⟩

theorem vend_any : ∀ (n : Nat) (x : JT n) (rest : List Int), (∃ c u, rest = c :: u ∧ isDel c = true) → VEnd (encV n x ++ rest) (encV n x).length
  | 0, x, _, _ => nomatch x
  | n + 1, x, rest, h => vend_encV n x rest (.inr (.inr (.inr (.inr h))))

/-- Behind member k a delimiter stands. -/
theorem rest_del {α : Type} (F : α → List Int) (cl : Int) (hcl : cl = 93 ∨ cl = 125) (items : List α) (k : Nat) : ∃ c u, restAt F cl items k = c :: u ∧ isDel c = true := by
  by_cases h : k < items.length
  · exact ⟨_, _, rest_more F cl items k h, by decide⟩
  · exact ⟨_, _, rest_end F cl items k (by omega), by rcases hcl with rfl | rfl <;> decide⟩
end Go.Proofs.Qxb6001451a.Pl
