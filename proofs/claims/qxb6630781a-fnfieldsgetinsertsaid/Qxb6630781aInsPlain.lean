/-
  THE PLAIN LAW of the second statement: two fields put in; a row that is written field by field.
-/
import Derived.Test.Qxb6630781aPlain
namespace Go.Proofs.Qxb6630781a
open Go.RowKit

/-- The field whose name is marked unknown, and the known one behind it. -/
def fA (s w : ByteArray) : Fld := ⟨s, w, true, false⟩
def fB (s v : ByteArray) : Fld := ⟨s, v, false, false⟩
/-- The new block. -/
def insL (l : List Fld) (p : Nat) (s v w : ByteArray) : List Fld := l.take p ++ (fA s w :: fB s v :: l.drop p)

theorem insL_len {l : List Fld} {p : Nat} {s v w : ByteArray} : (insL l p s v w).length = l.length + 2 := by
  simp [insL]; omega
theorem insL_lo {l : List Fld} {p i : Nat} {s v w : ByteArray} (hp : p ≤ l.length) (hi : i < p) : (insL l p s v w)[i]? = l[i]? := by
  unfold insL
  rw [List.getElem?_append_left (by simp; omega), List.getElem?_take_of_lt hi]
theorem insL_A {l : List Fld} {p : Nat} {s v w : ByteArray} (hp : p ≤ l.length) : (insL l p s v w)[p]? = some (fA s w) := by
  unfold insL
  rw [List.getElem?_append_right (by simp; omega)]
  simp [Nat.min_eq_left hp]
theorem insL_B {l : List Fld} {p : Nat} {s v w : ByteArray} (hp : p ≤ l.length) : (insL l p s v w)[p + 1]? = some (fB s v) := by
  unfold insL
  rw [List.getElem?_append_right (by simp; omega)]
  simp [Nat.min_eq_left hp]
theorem insL_hi {l : List Fld} {p i : Nat} {s v w : ByteArray} (hp : p ≤ i) (hl : p ≤ l.length) : (insL l p s v w)[i + 2]? = l[i]? := by
  unfold insL
  rw [List.getElem?_append_right (by simp; omega)]
  rw [List.length_take, Nat.min_eq_left hl, show i + 2 - p = (i - p) + 1 + 1 by omega, List.getElem?_cons_succ, List.getElem?_cons_succ, List.getElem?_drop]
  congr 1; omega

theorem ins_yes {l : List Fld} {p : Nat} {s v w : ByteArray} (h : anyL (l.take p) s = true) : getL (insL l p s v w) s = getL l s := by
  unfold insL
  rw [getL_append_yes h, cut_yes p h]
theorem ins_no {l : List Fld} {p : Nat} {s v w : ByteArray} (h : anyL (l.take p) s = false) : getL (insL l p s v w) s = (v, true) := by
  unfold insL
  rw [getL_append_no h]
  simp [getL, fA, fB, named]

/-- Of the list L the first k fields are written. -/
def upto (L : List Fld) (k : Nat) : Nat → Option Fld := fun i => if i < k then L[i]? else none
theorem Own.start {w : World} {g n : Nat} {F : Nat → Option Fld} (h : Own w g n F) (L : List Fld) : Own w g n (upto L 0) :=
  h.congr (fun i f _ hf => by simp [upto] at hf)
theorem Own.next {w : World} {g n : Nat} {L : List Fld} {k : Nat} (h : Own w g n (upto L k)) (hk : k < n) {f : Fld} (hf : L[k]? = some f) :
    Own ((((w.setCell ⟨g, k * 4, none⟩ (.string f.nm)).setCell ⟨g, k * 4 + 1, none⟩ (.string f.vl)).setCell ⟨g, k * 4 + 2, none⟩ (.bool f.nu)).setCell ⟨g, k * 4 + 3, none⟩ (.bool f.vu)) g n (upto L (k + 1)) := by
  refine (h.store hk f).congr (fun i f' hi hf' => ?_)
  unfold upto at hf' ⊢
  by_cases hik : i = k
  · subst hik
    simp only [Nat.lt_succ_self, if_pos] at hf' ⊢
    rw [← hf', hf]
  · rw [if_neg hik]
    by_cases h1 : i < k
    · rw [if_pos h1]; rwa [if_pos (by omega)] at hf'
    · rw [if_neg (by omega)] at hf'; cases hf'
theorem Own.all {w : World} {g n : Nat} {L : List Fld} (h : Own w g n (upto L n)) (hl : L.length = n) : Row w (some ⟨g, 0, none⟩) L :=
  h.row hl (fun i hi => by unfold upto; rw [if_pos (by omega)]; simp [hi])

end Go.Proofs.Qxb6630781a
