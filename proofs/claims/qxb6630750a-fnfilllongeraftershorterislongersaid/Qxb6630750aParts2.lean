/-
  THE PLAIN PARTS of the second law: counting bits; a longer fill over a shorter one.
-/
import Derived.Test.Qxb6630750aParts
namespace Go.Proofs.Qxb6630750a
open Go.RowKit

/-- The bits of v below k, counted. -/
def popTo (v : Int) : Nat → Int
  | 0 => 0
  | k + 1 => popTo v k + v / 2 ^ k % 2

theorem popTo_le (v : Int) (k : Nat) : 0 ≤ popTo v k ∧ popTo v k ≤ k := by
  induction k with
  | zero => simp [popTo]
  | succ k ih =>
    simp only [popTo]
    have h1 := Int.emod_nonneg (v / 2 ^ k) (show (2 : Int) ≠ 0 by omega)
    have h2 := Int.emod_lt_of_pos (v / 2 ^ k) (show (0 : Int) < 2 by omega)
    omega

/-- The bits of a word that 'fill m' has touched. -/
theorem popTo_fw (m k : Nat) (x : Int) (h : 64 * k < m) (j : Nat) (hj : j ≤ 64) : popTo (fw m k x) j = min (j : Int) ((m : Int) - 64 * k) := by
  induction j with
  | zero => simp [popTo]; omega
  | succ j ih =>
    simp only [popTo]
    rw [ih (by omega), word_bits m k x h j (by omega)]
    by_cases hc : 64 * k + j < m
    · rw [if_pos hc]; omega
    · rw [if_neg hc]; omega

theorem fw_fw (n m k : Nat) (x : Int) (h : n ≤ m) : fw m k (fw n k x) = fw m k x := by
  unfold fw
  by_cases h1 : 64 * (k + 1) ≤ m
  · rw [if_pos h1, if_pos h1]
  · rw [if_neg h1, if_neg h1]
    by_cases h2 : 64 * k < m
    · rw [if_pos h2, if_pos h2]
    · rw [if_neg h2, if_neg h2, if_neg (by omega), if_neg (by omega)]

theorem fillL_fillL (l : List Int) (n m : Nat) (h : n ≤ m) : fillL (fillL l n) m = fillL l m := by
  apply List.ext_getElem
  · simp [fillL]
  · intro j h1 h2
    simp [fillL, fw_fw n m j _ h]

/-- How many bits the first k words hold behind 'fill m'. -/
def cnt (m k : Nat) : Int := min (64 * (k : Int)) (m : Int)
theorem cnt_bounds (m k : Nat) (hk : k ≤ 65536) : 0 ≤ cnt m k ∧ cnt m k ≤ 4194304 := by unfold cnt; omega
theorem cnt_step (m k : Nat) (x : Int) (h : 64 * k < m) : cnt m k + popTo (fw m k x) 64 = cnt m (k + 1) := by
  rw [popTo_fw m k x h 64 (Nat.le_refl _)]; unfold cnt; omega
theorem cnt_past (m k : Nat) (h : m ≤ 64 * k) : cnt m k = cnt m (k + 1) := by unfold cnt; omega
theorem cnt_end (m n : Nat) (h : m ≤ 64 * n) : cnt m n = m := by unfold cnt; omega

end Go.Proofs.Qxb6630750a
