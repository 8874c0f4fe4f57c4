/-
  THE PLAIN PARTS: a block of words that the call itself made; what 'fill' makes of a list of words; the bits of such words. No Go text in sight.
-/
import Derived.WalkKit
import Derived.WalkSpells
import Derived.WalkLawsBesides
import Derived.Deep.OwnRows
namespace Go.Proofs.Qxb6630750a
open Go.RowKit

/-- A fact kept from the walk, and taken out again. -/
theorem hide {p : Prop} (h : p) : Hid p := h
theorem unhide {p : Prop} (h : Hid p) : p := h

/-- Block g is a row of words of the call's own: the numbers l. -/
def Blk (w : World) (g : Nat) (l : List Int) : Prop := w.heap[g]? = some (.cells (l.map (Value.int .u64)).toArray 27 (0, 0))

theorem Blk.cell {w : World} {g : Nat} {l : List Int} (h : Blk w g l) {j : Nat} (hj : j < l.length) : w.cell? ⟨g, j, none⟩ = some (.int .u64 (l.getD j 0)) := by
  rw [cell_of_row w g j _ _ _ h]; simp [hj]

theorem Blk.free {w : World} {g : Nat} {l : List Int} (h : Blk w g l) (j : Nat) : w.frozen? ⟨g, j, none⟩ = false := frozen_of_row w g j _ _ h

theorem Blk.lt {w : World} {g : Nat} {l : List Int} (h : Blk w g l) : g < w.heap.size := by
  unfold Blk at h
  exact (Array.getElem?_eq_some_iff.1 h).1

theorem Blk.set {w : World} {g : Nat} {l : List Int} (h : Blk w g l) (j : Nat) (v : Int) : Blk (w.setCell ⟨g, j, none⟩ (.int .u64 v)) g (l.set j v) := by
  unfold Blk at h ⊢
  rw [heap_setCell_same w g j _ _ _ h]
  simp [List.map_set]

theorem Blk.other {w : World} {g : Nat} {l : List Int} (h : Blk w g l) (a : Addr) (v : Value) (hk : g ≠ a.block) : Blk (w.setCell a v) g l := by
  unfold Blk at h ⊢
  rw [heap_setCell_other _ _ _ _ hk]; exact h

theorem Blk.below {w w' : World} {g B : Nat} {l : List Int} (h : Blk w g l) (hb : Below B w w') (hg : g < B) : Blk w' g l := by
  unfold Blk at h ⊢
  rw [hb.block g hg]; exact h

theorem Blk.kept {w w' : World} {g k : Nat} {l : List Int} (h : Blk w g l) (hb : w.grownBy w' (some k)) (hg : g ≠ k) : Blk w' g l := by
  have hl := h.lt
  unfold Blk at h ⊢
  rw [hb.block g hl (by simpa using hg)]; exact h

/-! ### a clone -/
/-- The first k numbers of z, then zeros: n in all. -/
def clo (z : List Int) (n k : Nat) : List Int := z.take k ++ List.replicate (n - k) 0

theorem clo_zero (w : World) (z : List Int) (n : Nat) : Blk (w.alloc (.cells (madeCells #[.int .u64 0] n) 27)) w.heap.size (clo z n 0) := by
  unfold Blk
  rw [heap_alloc_new]
  congr 2
  apply Array.ext'
  rw [toList_madeCells_one]; simp [clo]

theorem clo_len {z : List Int} {n k : Nat} (hk : k ≤ n) (hn : n ≤ z.length) : (clo z n k).length = n := by
  simp [clo]; omega

theorem clo_all {z : List Int} {n : Nat} : clo z n n = z.take n := by simp [clo]

theorem clo_step {w : World} {g : Nat} {z : List Int} {n k : Nat} (h : Blk w g (clo z n k)) (hk : k < n) (hn : n ≤ z.length) : Blk (w.setCell ⟨g, k, none⟩ (.int .u64 (z.getD k 0))) g (clo z n (k + 1)) := by
  have e : clo z n (k + 1) = (clo z n k).set k (z.getD k 0) := by
    apply List.ext_getElem
    · rw [clo_len (by omega) hn, List.length_set, clo_len (by omega) hn]
    · intro j h1 h2
      rw [clo_len (by omega) hn] at h1
      simp only [clo, List.getElem_append, List.getElem_set, List.length_take]
      by_cases hjk : k = j
      · subst hjk
        simp [show k < min (k + 1) z.length by omega, show k < z.length by omega]
      · by_cases hj : j < k
        · simp [hjk, show j < min (k + 1) z.length by omega, show j < min k z.length by omega]
        · simp [hjk, show ¬ j < min (k + 1) z.length by omega, show ¬ j < min k z.length by omega]
  rw [e]
  exact h.set _ _

/-! ### fill -/
/-- What word j holds behind 'fill m' where it held x. -/
def fw (m j : Nat) (x : Int) : Int := if 64 * (j + 1) ≤ m then 18446744073709551615 else if 64 * j < m then 2 ^ (m - 64 * j) - 1 else x
/-- Behind k rounds of the first loop. -/
def fillTo (l : List Int) (k : Nat) : List Int := l.mapIdx fun j x => if j < k then 18446744073709551615 else x
def fillL (l : List Int) (m : Nat) : List Int := l.mapIdx fun j x => fw m j x

theorem fillTo_len (l : List Int) (k : Nat) : (fillTo l k).length = l.length := by simp [fillTo]
theorem fillL_len (l : List Int) (k : Nat) : (fillL l k).length = l.length := by simp [fillL]
theorem fillTo_zero (l : List Int) : fillTo l 0 = l := by
  apply List.ext_getElem <;> simp [fillTo]
theorem fillL_getD {l : List Int} {m j : Nat} (h : j < l.length) : (fillL l m).getD j 0 = fw m j (l.getD j 0) := by
  simp [fillL, h]

theorem fillTo_step {w : World} {g : Nat} {l : List Int} {k : Nat} (h : Blk w g (fillTo l k)) : Blk (w.setCell ⟨g, k, none⟩ (.int .u64 18446744073709551615)) g (fillTo l (k + 1)) := by
  have e : fillTo l (k + 1) = (fillTo l k).set k 18446744073709551615 := by
    apply List.ext_getElem
    · simp [fillTo]
    · intro j h1 h2
      simp only [fillTo, List.getElem_mapIdx, List.getElem_set]
      by_cases hjk : k = j
      · subst hjk; simp
      · by_cases hj : j < k
        · simp [hjk, hj, show j < k + 1 by omega]
        · simp [hjk, hj, show ¬ j < k + 1 by omega]
  rw [e]
  exact h.set _ _

/-- No odd bits: the loop has done it all. -/
theorem fill_even {l : List Int} {m : Nat} (h : m % 64 = 0) : fillTo l (m / 64) = fillL l m := by
  apply List.ext_getElem
  · simp [fillTo, fillL]
  · intro j h1 h2
    simp only [fillTo, fillL, List.getElem_mapIdx, fw]
    by_cases hj : j < m / 64
    · rw [if_pos hj, if_pos (by omega)]
    · rw [if_neg hj, if_neg (by omega), if_neg (by omega)]

/-- Odd bits: one word more. -/
theorem fill_odd {w : World} {g : Nat} {l : List Int} {m : Nat} (h : m % 64 ≠ 0) (hb : Blk w g (fillTo l (m / 64))) :
    Blk (w.setCell ⟨g, m / 64, none⟩ (.int .u64 (2 ^ (m % 64) - 1))) g (fillL l m) := by
  have e : fillL l m = (fillTo l (m / 64)).set (m / 64) (2 ^ (m % 64) - 1) := by
    apply List.ext_getElem
    · simp [fillTo, fillL]
    · intro j h1 h2
      simp only [fillTo, fillL, List.getElem_mapIdx, List.getElem_set, fw]
      by_cases hjk : m / 64 = j
      · rw [if_pos hjk, if_neg (by omega), if_pos (by omega)]
        congr 2
        omega
      · rw [if_neg hjk]
        by_cases hj : j < m / 64
        · rw [if_pos hj, if_pos (by omega)]
        · rw [if_neg hj, if_neg (by omega), if_neg (by omega)]
  rw [e]
  exact hb.set _ _

/-! ### bits -/
theorem fw_bounds {m j : Nat} {x : Int} (h0 : 0 ≤ x) (h1 : x ≤ 18446744073709551615) : 0 ≤ fw m j x ∧ fw m j x ≤ 18446744073709551615 := by
  unfold fw
  split
  · omega
  · split
    · rename_i h2 h3
      have h4 : (2 : Nat) ^ (m - 64 * j) ≤ 2 ^ 64 := Nat.pow_le_pow_right (by omega) (by omega)
      have h5 : 0 < (2 : Nat) ^ (m - 64 * j) := Nat.pow_pos (by omega)
      have e : (2 : Int) ^ (m - 64 * j) = ((2 ^ (m - 64 * j) : Nat) : Int) := by push_cast; rfl
      rw [e]
      omega
    · omega

theorem wrap_mask (r : Nat) (h : r < 64) : IntKind.u64.wrap (IntKind.u64.wrap (2 ^ r) - 1) = 2 ^ r - 1 := by
  have h4 : (2 : Nat) ^ r < 2 ^ 64 := Nat.pow_lt_pow_right (by omega) h
  have h5 : 0 < (2 : Nat) ^ r := Nat.pow_pos (by omega)
  have e : (2 : Int) ^ r = ((2 ^ r : Nat) : Int) := by push_cast; rfl
  rw [e, IntKind.wrap_u64, IntKind.wrap_u64]
  omega

/-- Bit j of 2^r - 1. -/
theorem bit_mask (r j : Nat) : ((2 : Int) ^ r - 1) / 2 ^ j % 2 = if j < r then 1 else 0 := by
  have h5 : 0 < (2 : Nat) ^ r := Nat.pow_pos (by omega)
  have e : ((2 : Int) ^ r - 1) / 2 ^ j % 2 = (((2 ^ r - 1) / 2 ^ j % 2 : Nat) : Int) := by
    have h6 : ((2 ^ r - 1 : Nat) : Int) = (2 : Int) ^ r - 1 := by
      rw [Int.natCast_sub (by omega)]; push_cast; rfl
    push_cast [← h6]; rfl
  rw [e]
  have h7 := Nat.testBit_two_pow_sub_one r j
  rw [Nat.testBit_eq_decide_div_mod_eq] at h7
  have h8 : (2 ^ r - 1) / 2 ^ j % 2 < 2 := Nat.mod_lt _ (by omega)
  generalize (2 ^ r - 1) / 2 ^ j % 2 = t at h7 h8 ⊢
  by_cases h : j < r
  · rw [decide_eq_true h] at h7
    have := of_decide_eq_true h7
    rw [if_pos h]; omega
  · rw [decide_eq_false h] at h7
    have := of_decide_eq_false h7
    rw [if_neg h]; omega

theorem bit_one (v : Int) (j : Nat) (h0 : 0 ≤ v) (h1 : v ≤ 18446744073709551615) : bits BinOp.and IntKind.u64 (v / 2 ^ j) 1 = v / 2 ^ j % 2 := by
  have hp : (0 : Int) < 2 ^ j := Int.pow_pos (by omega)
  have h2 : 0 ≤ v / 2 ^ j := Int.ediv_nonneg h0 (by omega)
  have h3 : v / 2 ^ j ≤ v := Int.ediv_le_self _ h0
  exact and_one_u64 _ h2 (by omega)

/-- 'got != want' says no. -/
theorem bit_test (v : Int) (j : Nat) (b : Prop) [Decidable b] (h0 : 0 ≤ v) (h1 : v ≤ 18446744073709551615) (h : v / 2 ^ j % 2 = if b then 1 else 0) :
    (!(bits BinOp.and IntKind.u64 (v / 2 ^ j) 1 == 1) == decide b) = false := by
  rw [bit_one v j h0 h1, h]
  by_cases hb : b <;> simp [hb]

/-- A word that 'fill m' has touched: bit j says whether record 64*k+j lies below m. -/
theorem word_bits (m k : Nat) (x : Int) (h : 64 * k < m) (j : Nat) (hj : j < 64) : fw m k x / 2 ^ j % 2 = if 64 * k + j < m then 1 else 0 := by
  unfold fw
  split
  · have := bit_mask 64 j
    rw [if_pos hj] at this
    rw [if_pos (by omega)]
    exact this
  · rw [bit_mask]
    by_cases h2 : j < m - 64 * k
    · rw [if_pos h2, if_pos (by omega)]
    · rw [if_neg h2, if_neg (by omega)]

end Go.Proofs.Qxb6630750a
