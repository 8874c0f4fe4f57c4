/-
  THE PLAIN PARTS: the run of digits that a string begins with.
-/
import Derived.WalkKit
import Derived.WalkSpells
import Derived.WalkLawsBesides
import Derived.Deep.QuietTactic
import Derived.BigQuiet
namespace Go.Proofs.Qxb6630873a
open Go.RowKit

theorem hide {p : Prop} (h : p) : Hid p := h
theorem unhide {p : Prop} (h : Hid p) : p := h

def dig (c : UInt8) : Bool := decide (48 ≤ (c.toNat : Int)) && decide ((c.toNat : Int) ≤ 57)
/-- The digits that s begins with. -/
def lead (s : ByteArray) : ByteArray := ⟨(s.data.toList.takeWhile dig).toArray⟩

theorem dig_yes {c : UInt8} (h1 : 48 ≤ (c.toNat : Int)) (h2 : (c.toNat : Int) ≤ 57) : dig c = true := by simp [dig, h1, h2]
theorem dig_no1 {c : UInt8} (h1 : ¬ 48 ≤ (c.toNat : Int)) : dig c = false := by simp only [dig, h1]; rfl
theorem dig_no2 {c : UInt8} (h1 : ¬ (c.toNat : Int) ≤ 57) : dig c = false := by simp only [dig, h1]; simp

theorem tw_take {l : List UInt8} {k : Nat} (hk : k ≤ l.length) (h : ∀ (i : Nat) (hi : i < l.length), i < k → dig l[i] = true) (he : ∀ h : k < l.length, dig l[k] = false) : l.takeWhile dig = l.take k := by
  induction l generalizing k with
  | nil => simp
  | cons c t ih =>
    cases k with
    | zero =>
      have := he (by simp)
      simp at this
      simp [this]
    | succ k =>
      have h0 := h 0 (by simp) (by omega)
      simp at h0
      rw [List.takeWhile_cons, if_pos h0, List.take_succ_cons, ih (by simpa using hk) (fun i hi hik => h (i + 1) (by simpa using hi) (by omega)) (fun hh => he (by simpa using hh))]

/-- What the slice 's[:k]' is. -/
theorem lead_extract {s : ByteArray} {k : Nat} (hk : k ≤ s.size) (h : ∀ (i : Nat) (hi : i < s.size), i < k → dig s[i] = true) (he : ∀ h : k < s.size, dig s[k] = false) : s.extract 0 k = lead s := by
  have e := tw_take (l := s.data.toList) (k := k) (by simpa using hk) (fun i hi hik => h i (by simpa using hi) hik) (fun hh => he (by simpa using hh))
  unfold lead
  rw [e]
  apply ByteArray.ext
  rw [ByteArray.data_extract]
  apply Array.ext'
  simp

theorem lead_size (s : ByteArray) : (lead s).size ≤ s.size := by
  have h := List.takeWhile_sublist dig (l := s.data.toList)
  have h2 := h.length_le
  show ((s.data.toList.takeWhile dig).toArray).size ≤ s.data.size
  simpa using h2

/-- The plain laws. -/
theorem tw_all {a b : List UInt8} (h : (a.takeWhile dig).length = a.length) : (a ++ b).takeWhile dig = a ++ b.takeWhile dig := by
  induction a with
  | nil => rfl
  | cons c t ih =>
    by_cases hc : dig c = true
    · simp only [List.cons_append, List.takeWhile_cons, hc, if_true]
      rw [List.takeWhile_cons, if_pos hc] at h
      rw [ih (by simpa using h)]
    · rw [List.takeWhile_cons, if_neg hc] at h
      simp at h
theorem tw_part {a b : List UInt8} (h : (a.takeWhile dig).length ≠ a.length) : (a ++ b).takeWhile dig = a.takeWhile dig := by
  induction a with
  | nil => simp at h
  | cons c t ih =>
    by_cases hc : dig c = true
    · simp only [List.cons_append, List.takeWhile_cons, hc, if_true]
      rw [List.takeWhile_cons, if_pos hc] at h
      rw [ih (by simpa using h)]
    · simp [hc]

theorem lead_all {a b : ByteArray} (h : (lead a).size = a.size) : lead (a ++ b) = a ++ lead b := by
  have h1 : (a.data.toList.takeWhile dig).length = a.data.toList.length := by
    have : ((a.data.toList.takeWhile dig).toArray).size = a.data.size := h
    simpa using this
  apply ByteArray.ext
  apply Array.ext'
  have e := tw_all (b := b.data.toList) h1
  simp only [lead, ByteArray.data_append, Array.toList_append]
  exact e
theorem lead_part {a b : ByteArray} (h : (lead a).size ≠ a.size) : lead (a ++ b) = lead a := by
  have h1 : (a.data.toList.takeWhile dig).length ≠ a.data.toList.length := by
    intro h2
    apply h
    show ((a.data.toList.takeWhile dig).toArray).size = a.data.size
    simpa using h2
  unfold lead
  rw [ByteArray.data_append, Array.toList_append, tw_part h1]
theorem tw_tw (l : List UInt8) : (l.takeWhile dig).takeWhile dig = l.takeWhile dig := by
  induction l with
  | nil => rfl
  | cons c t ih =>
    by_cases hc : dig c = true
    · rw [List.takeWhile_cons, if_pos hc, List.takeWhile_cons, if_pos hc, ih]
    · rw [List.takeWhile_cons, if_neg hc]; rfl
theorem lead_lead (s : ByteArray) : lead (lead s) = lead s := by
  unfold lead
  rw [tw_tw]

theorem tw_mem (l : List UInt8) (c : UInt8) (h : c ∈ l.takeWhile dig) : dig c = true := by
  induction l with
  | nil => simp at h
  | cons d t ih =>
    by_cases hd : dig d = true
    · rw [List.takeWhile_cons, if_pos hd] at h
      rcases List.mem_cons.1 h with rfl | h
      · exact hd
      · exact ih h
    · rw [List.takeWhile_cons, if_neg hd] at h; simp at h

theorem tw_get (l : List UInt8) (i : Nat) (h : i < (l.takeWhile dig).length) (h2 : i < l.length) : (l.takeWhile dig)[i] = l[i] := by
  induction l generalizing i with
  | nil => simp at h2
  | cons c t ih =>
    by_cases hc : dig c = true
    · have e : (c :: t).takeWhile dig = c :: t.takeWhile dig := by rw [List.takeWhile_cons, if_pos hc]
      cases i with
      | zero => simp [e]
      | succ i =>
        have h3 : i < (t.takeWhile dig).length := by rw [e] at h; simpa using h
        have := ih i h3 (by simpa using h2)
        simp only [e, List.getElem_cons_succ]
        exact this
    · have e : (c :: t).takeWhile dig = [] := by rw [List.takeWhile_cons, if_neg hc]
      rw [e] at h
      simp at h

/-- The run of digits that a string begins with: byte by byte. -/
theorem lead_get {s : ByteArray} {i : Nat} (h : i < (lead s).size) : (lead s)[i] = s[i]'(Nat.lt_of_lt_of_le h (lead_size s)) ∧ dig (lead s)[i] = true := by
  have hl : i < (s.data.toList.takeWhile dig).length := by
    have : i < ((s.data.toList.takeWhile dig).toArray).size := h
    simpa using this
  have e : (lead s)[i] = (s.data.toList.takeWhile dig)[i] := rfl
  constructor
  · exact e.trans (tw_get _ i hl (by have := lead_size s; simp; exact Nat.lt_of_lt_of_le h this))
  · exact (congrArg dig e).trans (tw_mem _ _ (List.getElem_mem hl))
theorem lead_stop {s : ByteArray} (h : (lead s).size < s.size) : dig s[(lead s).size] = false := by
  have e : (lead s).size = (s.data.toList.takeWhile dig).length := by
    show ((s.data.toList.takeWhile dig).toArray).size = _
    simp
  have hl : (s.data.toList.takeWhile dig).length < s.data.toList.length := by rw [← e]; simpa using h
  have e2 : s[(lead s).size] = s.data.toList[(s.data.toList.takeWhile dig).length] := by
    show s.data.toList[(lead s).size]'_ = _
    congr 1
  refine (congrArg dig e2).trans ?_
  have key : ∀ (l : List UInt8) (h : (l.takeWhile dig).length < l.length), dig l[(l.takeWhile dig).length] = false := by
    intro l
    induction l with
    | nil => intro h; simp at h
    | cons c t ih =>
      intro h
      by_cases hc : dig c = true
      · have h1 : ((c :: t).takeWhile dig) = c :: t.takeWhile dig := by rw [List.takeWhile_cons, if_pos hc]
        have h2 : (t.takeWhile dig).length < t.length := by rw [h1] at h; simpa using h
        have := ih h2
        simp only [h1, List.length_cons, List.getElem_cons_succ]
        exact this
      · have h1 : ((c :: t).takeWhile dig) = [] := by rw [List.takeWhile_cons, if_neg hc]
        simp only [h1, List.length_nil, List.getElem_cons_zero]
        simpa using hc
  exact key _ hl

end Go.Proofs.Qxb6630873a
