/-
  THE PLAIN LAWS of Get over a list of fields: cut, and put in.
-/
import Derived.Test.Qxb6630781aParts
namespace Go.Proofs.Qxb6630781a

theorem getL_append_yes {l r : List Fld} {s : ByteArray} (h : anyL l s = true) : getL (l ++ r) s = getL l s := by
  induction l with
  | nil => simp [anyL] at h
  | cons f t ih =>
    simp only [List.cons_append, getL]
    by_cases hf : named f s = true
    · rw [if_pos hf, if_pos hf]
    · rw [if_neg hf, if_neg hf]
      refine ih ?_
      simpa [anyL, hf] using h

theorem getL_append_no {l r : List Fld} {s : ByteArray} (h : anyL l s = false) : getL (l ++ r) s = getL r s := by
  induction l with
  | nil => rfl
  | cons f t ih =>
    have h1 : named f s = false ∧ anyL t s = false := by simpa [anyL] using h
    simp only [List.cons_append, getL, h1.1]
    exact ih h1.2

theorem getL_none {l : List Fld} {s : ByteArray} (h : anyL l s = false) : getL l s = (ByteArray.empty, false) := by
  have := getL_append_no (r := []) h
  rw [List.append_nil] at this
  rw [this]; rfl

theorem cut_yes {l : List Fld} {s : ByteArray} (k : Nat) (h : anyL (l.take k) s = true) : getL (l.take k) s = getL l s := by
  have := getL_append_yes (r := l.drop k) h
  rw [List.take_append_drop] at this
  exact this.symm

theorem cut_no {l : List Fld} {s : ByteArray} (k : Nat) (h : anyL (l.take k) s = false) : getL (l.drop k) s = getL l s := by
  have := getL_append_no (r := l.drop k) h
  rw [List.take_append_drop] at this
  exact this.symm

theorem Row.take {w : World} {a : Option Addr} {l : List Fld} (h : Row w a l) (k : Nat) : Row w a (l.take k) := by
  rcases h with h | ⟨b, off, ha, hB, hc⟩
  · subst h; exact .inl (by simp)
  · refine .inr ⟨b, off, ha, hB, fun i hi => ?_⟩
    have hi' : i < l.length := by simp at hi; omega
    have e : (l.take k)[i] = l[i] := by simp
    rw [e]; exact hc i hi'

theorem Row.drop {w : World} {g o : Nat} {l : List Fld} (h : Row w (some ⟨g, o, none⟩) l) (k : Nat) : Row w (some ⟨g, o + k * 4, none⟩) (l.drop k) := by
  rcases h with h | ⟨b, off, ha, hB, hc⟩
  · subst h; exact .inl (by simp)
  · cases ha
    refine .inr ⟨g, o + k * 4, rfl, hB, fun i hi => ?_⟩
    have hi' : k + i < l.length := by simp at hi; omega
    have e : (l.drop k)[i] = l[k + i] := by simp
    rw [e, show o + k * 4 + i * 4 = o + (k + i) * 4 by omega]; exact hc _ hi'

end Go.Proofs.Qxb6630781a
