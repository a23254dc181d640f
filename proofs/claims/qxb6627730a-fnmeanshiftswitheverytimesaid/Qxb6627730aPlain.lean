/-
  The plain arithmetic: the quotient toward zero, running totals, a list shifted, a list with its mean put behind it.
-/
import Derived.Test.Qxb6627730aMean
namespace Go.Proofs.Qxb6627730a
open Go.RowKit

/-- The quotient toward zero and what is left. -/
theorem quot_parts (s : Int) (n : Nat) (h0 : 0 < n) : ∃ q, s.tdiv n * n = q ∧ (0 ≤ s → 0 ≤ s - q ∧ s - q < n) ∧ (s < 0 → -(n : Int) < s - q ∧ s - q ≤ 0) ∧ (s + s.tdiv n).tdiv ((n : Int) + 1) = s.tdiv n ∧ (0 ≤ s → 0 ≤ s.tdiv n ∧ s.tdiv n ≤ s) ∧ (s < 0 → s ≤ s.tdiv n ∧ s.tdiv n ≤ 0) := by
  have pos : ∀ s : Int, 0 ≤ s → 0 ≤ s - s.tdiv n * n ∧ s - s.tdiv n * n < n ∧ (s + s.tdiv n).tdiv ((n : Int) + 1) = s.tdiv n ∧ 0 ≤ s.tdiv n ∧ s.tdiv n ≤ s := by
    intro s hs
    have e := Int.tdiv_eq_ediv_of_nonneg (a := s) (b := (n : Int)) hs
    rw [e]
    have h1 := Int.emod_add_mul_ediv s n
    have h2 := Int.emod_nonneg s (show (n : Int) ≠ 0 by omega)
    have h3 := Int.emod_lt_of_pos s (show (0 : Int) < n by omega)
    have h4 : 0 ≤ s / n := Int.ediv_nonneg hs (by omega)
    have h5 : s / n ≤ s := Int.ediv_le_self _ hs
    have hc : s / n * n = n * (s / n) := Int.mul_comm _ _
    refine ⟨by omega, by omega, ?_, h4, h5⟩
    rw [Int.tdiv_eq_ediv_of_nonneg (by omega)]
    have h6 : s + s / n = s % n + (s / n) * ((n : Int) + 1) := by rw [Int.mul_add, Int.mul_one]; omega
    rw [h6, Int.add_mul_ediv_right _ _ (by omega), Int.ediv_eq_zero_of_lt h2 (by omega), Int.zero_add]
  refine ⟨_, rfl, fun hs => ⟨(pos s hs).1, (pos s hs).2.1⟩, fun hs => ?_, ?_, fun hs => (pos s hs).2.2.2, fun hs => ?_⟩
  · have h := pos (-s) (by omega)
    rw [Int.neg_tdiv, Int.neg_mul] at h
    omega
  · by_cases hs : 0 ≤ s
    · exact (pos s hs).2.2.1
    · have h := (pos (-s) (by omega)).2.2.1
      rw [Int.neg_tdiv, ← Int.neg_add, Int.neg_tdiv] at h
      omega
  · have h := (pos (-s) (by omega)).2.2.2
    rw [Int.neg_tdiv] at h
    omega

theorem shift_quot (s c : Int) (n : Nat) (h0 : 0 < n) (hs : 0 ≤ s) (hc : 0 ≤ c) : (s + n * c).tdiv n = s.tdiv n + c := by
  have h1 : 0 ≤ (n : Int) * c := Int.mul_nonneg (by omega) hc
  rw [Int.tdiv_eq_ediv_of_nonneg (by omega), Int.tdiv_eq_ediv_of_nonneg hs, Int.add_mul_ediv_left _ _ (by omega)]

theorem sumTo_map (c : Int) : ∀ (xs : List Int) (k : Nat), k ≤ xs.length → sumTo (xs.map (· + c)) k = sumTo xs k + k * c
  | xs, 0, _ => by simp [sumTo]
  | [], k + 1, h => by simp at h
  | x :: xs, k + 1, h => by
    have := sumTo_map c xs k (by simpa using h)
    simp only [sumTo, List.map_cons, List.take_succ_cons, List.sum_cons] at *
    rw [this]
    have : ((k + 1 : Nat) : Int) * c = k * c + c := by rw [Int.natCast_add, Int.add_mul]; simp
    omega

/-- All are at least 0: the running totals rise. -/
theorem sumTo_mono (xs : List Int) (h : ∀ (j : Nat) (x : Int), xs[j]? = some x → 0 ≤ x) : ∀ (k d : Nat), k + d ≤ xs.length → sumTo xs k ≤ sumTo xs (k + d)
  | k, 0, _ => Int.le_refl _
  | k, d + 1, hl => by
    have ih := sumTo_mono xs h k d (by omega)
    have hx : xs[k + d]? = some (xs[k + d]'(by omega)) := by simp
    have := sumTo_step hx
    have h0 := h _ _ hx
    rw [show k + (d + 1) = k + d + 1 by omega, this]
    omega

theorem elem_le (xs : List Int) (h : ∀ (j : Nat) (x : Int), xs[j]? = some x → 0 ≤ x) {j : Nat} {x : Int} (hx : xs[j]? = some x) : x ≤ xs.sum := by
  have hj := (List.getElem?_eq_some_iff.1 hx).1
  have h1 := sumTo_mono xs h (j + 1) (xs.length - (j + 1)) (by omega)
  rw [show j + 1 + (xs.length - (j + 1)) = xs.length by omega, sumTo_all, sumTo_step hx] at h1
  have h2 := sumTo_mono xs h 0 j (by omega)
  rw [sumTo_zero, Nat.zero_add] at h2
  omega

/-- What the second law's guard pays. -/
theorem shift_fits (xs : List Int) (c : Int) (n : Nat) (hl : xs.length = n) (h0 : 0 < n) (hc : 0 ≤ c) (h : ∀ (j : Nat) (x : Int), xs[j]? = some x → 0 ≤ x) (hs : xs.sum ≤ 9223372036854775807) (hq : c ≤ (9223372036854775807 - xs.sum).tdiv n) :
    xs.sum + n * c ≤ 9223372036854775807 ∧ Fits (xs.map (· + c)) ∧ (∀ (j : Nat) (x : Int), xs[j]? = some x → 0 ≤ x ∧ x + c ≤ 9223372036854775807) ∧ 0 ≤ xs.sum := by
  have s0 : 0 ≤ xs.sum := by
    have := sumTo_mono xs h 0 xs.length (by omega)
    rw [sumTo_zero, Nat.zero_add, sumTo_all] at this
    exact this
  rw [Int.tdiv_eq_ediv_of_nonneg (by omega)] at hq
  have h1 : n * c ≤ 9223372036854775807 - xs.sum := by
    have := (Int.le_ediv_iff_mul_le (show (0 : Int) < n by omega)).1 hq
    rw [Int.mul_comm]; exact this
  have h2 : c ≤ n * c := by
    have := Int.mul_le_mul_of_nonneg_right (show (1 : Int) ≤ n by omega) hc
    rw [Int.one_mul] at this; exact this
  refine ⟨by omega, fun k hk => ?_, fun j x hx => ⟨h j x hx, ?_⟩, s0⟩
  · rw [List.length_map] at hk
    rw [sumTo_map c xs k hk]
    have h3 := sumTo_mono xs h k (xs.length - k) (by omega)
    rw [show k + (xs.length - k) = xs.length by omega, sumTo_all] at h3
    have h4 := sumTo_mono xs h 0 k (by omega)
    rw [sumTo_zero, Nat.zero_add] at h4
    have h5 : (k : Int) * c ≤ n * c := Int.mul_le_mul_of_nonneg_right (by omega) hc
    have h6 : 0 ≤ (k : Int) * c := Int.mul_nonneg (by omega) hc
    omega
  · have := elem_le xs h hx
    omega

theorem sum_map (xs : List Int) (c : Int) : (xs.map (· + c)).sum = xs.sum + xs.length * c := by
  have := sumTo_map c xs xs.length (Nat.le_refl _)
  rw [sumTo_all] at this
  rw [← this, ← sumTo_all]; simp
theorem sum_snoc (xs : List Int) (m : Int) : (xs ++ [m]).sum = xs.sum + m := by simp
/-- The list with the mean put behind it. -/
theorem snoc_fits (xs : List Int) (m : Int) (h : ∀ k, k ≤ xs.length → -2305843009213693952 ≤ sumTo xs k ∧ sumTo xs k ≤ 2305843009213693952) (h1 : -2305843009213693952 ≤ m) (h2 : m ≤ 2305843009213693952) : Fits (xs ++ [m]) := fun k hk => by
  by_cases e : k ≤ xs.length
  · have := h k e
    have e2 : sumTo (xs ++ [m]) k = sumTo xs k := by simp [sumTo, List.take_append_of_le_length e]
    rw [e2]; omega
  · have e3 : k = (xs ++ [m]).length := by simp at hk ⊢; omega
    rw [e3, sumTo_all, sum_snoc]
    have := h xs.length (Nat.le_refl _)
    rw [sumTo_all] at this
    omega
end Go.Proofs.Qxb6627730a
