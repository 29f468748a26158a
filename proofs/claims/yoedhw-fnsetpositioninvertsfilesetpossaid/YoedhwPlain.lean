/-
  Plain functions and their laws: no program in sight.
-/
import Derived.WalkKit
namespace Go.Proofs.Yoedhw

/-- One piece is in range. -/
def okB (x : Int) : Bool := decide (0 ≤ x) && decide (x ≤ 65536)
/-- At most 4096 pieces, each in range, summing to at most 1048576. -/
def fitB (xs : List Int) : Bool := decide (xs.length ≤ 4096) && xs.all okB && decide (xs.sum ≤ 1048576)

theorem sum_take_succ (xs : List Int) (k : Nat) (h : k < xs.length) : (xs.take (k + 1)).sum = (xs.take k).sum + xs.getD k 0 := by
  rw [List.take_succ_eq_append_getElem h, List.sum_append]
  simp [List.getD, h]

theorem all_take_succ (xs : List Int) (k : Nat) (h : k < xs.length) : (xs.take (k + 1)).all okB = ((xs.take k).all okB && okB (xs.getD k 0)) := by
  rw [List.take_succ_eq_append_getElem h, List.all_append]
  simp [List.getD, h]

/-- The sum of k pieces in range. -/
theorem sum_bound (xs : List Int) (h : xs.all okB = true) : 0 ≤ xs.sum ∧ xs.sum ≤ 65536 * xs.length := by
  induction xs with
  | nil => simp
  | cons x xs ih =>
    simp only [List.all_cons, Bool.and_eq_true, okB, decide_eq_true_eq] at h
    have := ih (by simpa [okB] using h.2)
    simp only [List.sum_cons, List.length_cons]
    omega

theorem fit_bad (xs : List Int) (k : Nat) (h : k < xs.length) (hb : okB (xs.getD k 0) = false) : fitB xs = false := by
  have : xs.all okB = false := by
    rw [List.all_eq_false]
    exact ⟨xs[k], List.getElem_mem h, by simpa [List.getD, h] using hb⟩
  simp [fitB, this]
theorem fit_long (xs : List Int) (h : 4096 < xs.length) : fitB xs = false := by
  have : decide (xs.length ≤ 4096) = false := by simpa using h
  simp [fitB, this]
theorem fit_end (xs : List Int) (h : xs.length ≤ 4096) (ha : xs.all okB = true) : fitB xs = decide (xs.sum ≤ 1048576) := by
  simp [fitB, ha, h]

theorem fit_length {xs : List Int} (h : fitB xs = true) : xs.length ≤ 4096 := by
  simp only [fitB, Bool.and_eq_true, decide_eq_true_eq] at h; exact h.1.1
theorem fit_sum {xs : List Int} (h : fitB xs = true) : xs.sum ≤ 1048576 := by
  simp only [fitB, Bool.and_eq_true, decide_eq_true_eq] at h; exact h.2
theorem fit_all {xs : List Int} (h : fitB xs = true) : xs.all okB = true := by
  simp only [fitB, Bool.and_eq_true, decide_eq_true_eq] at h; exact h.1.2
theorem fit_at {xs : List Int} (h : fitB xs = true) (k : Nat) : 0 ≤ xs.getD k 0 ∧ xs.getD k 0 ≤ 65536 := by
  by_cases hk : k < xs.length
  · have := List.all_eq_true.1 (fit_all h) xs[k] (List.getElem_mem hk)
    simp only [okB, Bool.and_eq_true, decide_eq_true_eq] at this
    simpa [List.getD, hk] using this
  · simp [List.getD, hk]
theorem fit_sum_take {xs : List Int} (h : fitB xs = true) (k : Nat) : 0 ≤ (xs.take k).sum ∧ (xs.take k).sum ≤ 1048576 := by
  have ha := fit_all h
  have hs := fit_sum h
  have e : xs.sum = (xs.take k).sum + (xs.drop k).sum := by rw [← List.sum_append, List.take_append_drop]
  have h1 := sum_bound (xs.take k) (by rw [List.all_eq_true] at ha ⊢; exact fun x hx => ha x (List.mem_of_mem_take hx))
  have h2 := sum_bound (xs.drop k) (by rw [List.all_eq_true] at ha ⊢; exact fun x hx => ha x (List.mem_of_mem_drop hx))
  omega
end Go.Proofs.Yoedhw
