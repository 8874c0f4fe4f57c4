/-
  THE PLAIN PARTS: a header field; what Get answers over a list of fields; a row of fields in memory.
-/
import Derived.WalkKit
import Derived.WalkSpells
import Derived.WalkLawsBesides
import Derived.Deep.OwnRows
import Derived.Deep.QuietTactic
import Derived.BigQuiet
namespace Go.Proofs.Qxb6630781a
open Go.RowKit

theorem hide {p : Prop} (h : p) : Hid p := h
theorem unhide {p : Prop} (h : Hid p) : p := h

/-- A header field. -/
structure Fld where
  nm : ByteArray
  vl : ByteArray
  nu : Bool
  vu : Bool

/-- The field carries the known name. -/
def named (f : Fld) (s : ByteArray) : Bool := !f.nu && f.nm.toList == s.toList
/-- Some field of the list does. -/
def anyL (l : List Fld) (s : ByteArray) : Bool := l.any fun f => named f s
/-- What Get answers. -/
def getL : List Fld → ByteArray → ByteArray × Bool
  | [], _ => (ByteArray.empty, false)
  | f :: r, s => if named f s then (f.vl, !f.vu) else getL r s

/-- The four cells of field f begin at offset o of block b. -/
def At (w : World) (b o : Nat) (f : Fld) : Prop :=
  w.cell? ⟨b, o, none⟩ = some (.string f.nm) ∧ w.cell? ⟨b, o + 1, none⟩ = some (.string f.vl) ∧ w.cell? ⟨b, o + 2, none⟩ = some (.bool f.nu) ∧ w.cell? ⟨b, o + 3, none⟩ = some (.bool f.vu)

/-- The list l lies from address a on. -/
def Row (w : World) (a : Option Addr) (l : List Fld) : Prop :=
  l = [] ∨ ∃ b off, a = some ⟨b, off, none⟩ ∧ b < w.heap.size ∧ ∀ (i : Nat) (h : i < l.length), At w b (off + i * 4) l[i]

theorem At.below {w w' : World} {B b o : Nat} {f : Fld} (h : At w b o f) (hb : Below B w w') (hB : b < B) : At w' b o f :=
  ⟨(hb.cell (p := ⟨b, o, none⟩) hB).trans h.1, (hb.cell (p := ⟨b, o + 1, none⟩) hB).trans h.2.1, (hb.cell (p := ⟨b, o + 2, none⟩) hB).trans h.2.2.1, (hb.cell (p := ⟨b, o + 3, none⟩) hB).trans h.2.2.2⟩

theorem Row.below {w w' : World} {a : Option Addr} {l : List Fld} (h : Row w a l) (hb : Below w.heap.size w w') : Row w' a l := by
  rcases h with h | ⟨b, off, ha, hB, hc⟩
  · exact .inl h
  · exact .inr ⟨b, off, ha, Nat.lt_of_lt_of_le hB hb.size, fun i hi => (hc i hi).below hb hB⟩

theorem named_no1 {f : Fld} {s : ByteArray} (h : (f.nm.toList == s.toList) = false) : named f s = false := by simp [named, h]
theorem named_no2 {f : Fld} {s : ByteArray} (h : f.nu = true) : named f s = false := by simp [named, h]
theorem named_yes {f : Fld} {s : ByteArray} (h : (f.nm.toList == s.toList) = true) (h2 : f.nu = false) : named f s = true := by simp only [named, h, h2]; rfl

theorem getL_drop {l : List Fld} {s : ByteArray} {k : Nat} (h : k < l.length) (hn : named l[k] s = false) : getL (l.drop k) s = getL (l.drop (k + 1)) s := by
  rw [List.drop_eq_getElem_cons h]
  simp [getL, hn]
theorem getL_hit {l : List Fld} {s : ByteArray} {k : Nat} (h : k < l.length) (hn : named l[k] s = true) : getL (l.drop k) s = (l[k].vl, !l[k].vu) := by
  rw [List.drop_eq_getElem_cons h]
  simp [getL, hn]

theorem anyL_drop {l : List Fld} {s : ByteArray} {k : Nat} (h : k < l.length) : anyL (l.drop k) s = (named l[k] s || anyL (l.drop (k + 1)) s) := by
  rw [List.drop_eq_getElem_cons h]
  rfl

/-! ### a row of the call's own -/
/-- Block g is a row of n fields of the call's own; where F says so, field i is written. -/
def Own (w : World) (g n : Nat) (F : Nat → Option Fld) : Prop :=
  ∃ arr : Array Value, w.heap[g]? = some (.cells arr 35 (0, 0)) ∧ arr.size = n * 4 ∧
    ∀ i f, i < n → F i = some f → arr[i * 4]? = some (.string f.nm) ∧ arr[i * 4 + 1]? = some (.string f.vl) ∧ arr[i * 4 + 2]? = some (.bool f.nu) ∧ arr[i * 4 + 3]? = some (.bool f.vu)

theorem Own.made (w : World) (n : Nat) (z : Array Value) : Own (w.alloc (.cells (madeCells z (n * 4)) 35)) w.heap.size n fun _ => none :=
  ⟨_, heap_alloc_new w _, size_madeCells _ _, fun i f _ h => by cases h⟩

theorem Own.free {w : World} {g n : Nat} {F : Nat → Option Fld} (h : Own w g n F) (j : Nat) : w.frozen? ⟨g, j, none⟩ = false := by
  obtain ⟨arr, h1, h2, h3⟩ := h
  exact frozen_of_row w g j _ _ h1

theorem Own.cell {w : World} {g n : Nat} {F : Nat → Option Fld} (h : Own w g n F) {j : Nat} (hj : j < n * 4) : ∃ v, w.cell? ⟨g, j, none⟩ = some v := by
  obtain ⟨arr, h1, h2, h3⟩ := h
  rw [cell_of_row w g j _ _ _ h1]
  exact ⟨arr[j]'(by omega), by simp [show j < arr.size by omega]⟩

theorem Own.below {w w' : World} {B g n : Nat} {F : Nat → Option Fld} (h : Own w g n F) (hb : Below B w w') (hg : g < B) : Own w' g n F := by
  obtain ⟨arr, h1, h2, h3⟩ := h
  exact ⟨arr, by rw [hb.block g hg]; exact h1, h2, h3⟩

theorem Own.lt {w : World} {g n : Nat} {F : Nat → Option Fld} (h : Own w g n F) : g < w.heap.size := by
  obtain ⟨arr, h1, h2, h3⟩ := h
  exact (Array.getElem?_eq_some_iff.1 h1).1

/-- A field stored. -/
theorem Own.store {w : World} {g n : Nat} {F : Nat → Option Fld} (h : Own w g n F) {k : Nat} (hk : k < n) (f : Fld) :
    Own ((((w.setCell ⟨g, k * 4, none⟩ (.string f.nm)).setCell ⟨g, k * 4 + 1, none⟩ (.string f.vl)).setCell ⟨g, k * 4 + 2, none⟩ (.bool f.nu)).setCell ⟨g, k * 4 + 3, none⟩ (.bool f.vu)) g n (fun i => if i = k then some f else F i) := by
  obtain ⟨arr, h1, h2, h3⟩ := h
  refine ⟨_, heap_setCell_same _ g _ _ _ _ (heap_setCell_same _ g _ _ _ _ (heap_setCell_same _ g _ _ _ _ (heap_setCell_same _ g _ _ _ _ h1))), by simp [h2], ?_⟩
  intro i f' hi hF
  simp only at hF
  by_cases hik : i = k
  · subst hik
    simp only [if_pos] at hF
    cases hF
    simp [Array.getElem?_setIfInBounds]
    omega
  · rw [if_neg hik] at hF
    obtain ⟨a0, a1, a2, a3⟩ := h3 i f' hi hF
    refine ⟨?_, ?_, ?_, ?_⟩
    · rw [Array.getElem?_setIfInBounds_ne (by omega), Array.getElem?_setIfInBounds_ne (by omega), Array.getElem?_setIfInBounds_ne (by omega), Array.getElem?_setIfInBounds_ne (by omega)]; exact a0
    · rw [Array.getElem?_setIfInBounds_ne (by omega), Array.getElem?_setIfInBounds_ne (by omega), Array.getElem?_setIfInBounds_ne (by omega), Array.getElem?_setIfInBounds_ne (by omega)]; exact a1
    · rw [Array.getElem?_setIfInBounds_ne (by omega), Array.getElem?_setIfInBounds_ne (by omega), Array.getElem?_setIfInBounds_ne (by omega), Array.getElem?_setIfInBounds_ne (by omega)]; exact a2
    · rw [Array.getElem?_setIfInBounds_ne (by omega), Array.getElem?_setIfInBounds_ne (by omega), Array.getElem?_setIfInBounds_ne (by omega), Array.getElem?_setIfInBounds_ne (by omega)]; exact a3

/-- All written: the list lies there. -/
theorem Own.row {w : World} {g n : Nat} {F : Nat → Option Fld} (h : Own w g n F) {l : List Fld} (hl : l.length = n) (hF : ∀ (i : Nat) (hi : i < l.length), F i = some l[i]) : Row w (some ⟨g, 0, none⟩) l := by
  have hlt := h.lt
  obtain ⟨arr, h1, h2, h3⟩ := h
  refine .inr ⟨g, 0, rfl, hlt, fun i hi => ?_⟩
  obtain ⟨a0, a1, a2, a3⟩ := h3 i _ (by omega) (hF i hi)
  refine ⟨?_, ?_, ?_, ?_⟩ <;> rw [cell_of_row w g _ _ _ _ h1]
  · rw [Nat.zero_add]; exact a0
  · rw [Nat.zero_add]; exact a1
  · rw [Nat.zero_add]; exact a2
  · rw [Nat.zero_add]; exact a3

theorem Own.congr {w : World} {g n : Nat} {F G : Nat → Option Fld} (h : Own w g n F) (hG : ∀ i f, i < n → G i = some f → F i = some f) : Own w g n G := by
  obtain ⟨arr, h1, h2, h3⟩ := h
  exact ⟨arr, h1, h2, fun i f hi hf => h3 i f hi (hG i f hi hf)⟩

/-- Four stores into a block from B on. -/
theorem below_store {B : Nat} {a w : World} (h : Below B a w) {g : Nat} (hg : B ≤ g) (o0 o1 o2 o3 : Nat) (v0 v1 v2 v3 : Value) :
    Below B a ((((w.setCell ⟨g, o0, none⟩ v0).setCell ⟨g, o1, none⟩ v1).setCell ⟨g, o2, none⟩ v2).setCell ⟨g, o3, none⟩ v3) :=
  (((h.setCell hg _).setCell hg _).setCell hg _).setCell hg _

end Go.Proofs.Qxb6630781a
