/-
  THE WALK of FnLeadingDigitsConsByte (4).
-/
import Derived.Test.Qxb6630873aLead
import Derived.Laws.IdiomStrings
namespace Go.Proofs.Qxb6630873a
open Go.RowKit

/-- One byte as a string. -/
def one (c : UInt8) : ByteArray := ⟨#[c]⟩
theorem one_size (c : UInt8) : (one c).size = 1 := rfl
theorem lead_one_yes {c : UInt8} (h : dig c = true) (s : ByteArray) : lead (one c ++ s) = one c ++ lead s := by
  refine lead_all ?_
  have : lead (one c) = one c := by simp [lead, one, h]
  rw [this]
theorem lead_one_no {c : UInt8} (h : dig c = false) (s : ByteArray) : lead (one c ++ s) = ⟨#[]⟩ := by
  have : lead (one c) = ⟨#[]⟩ := by simp [lead, one, h]
  rw [lead_part (by rw [this, one_size]; decide), this]

theorem run_one (c : UInt8) (w : World) : (convert 25 9 (.slice (some ⟨w.heap.size, 0, none⟩) 1 1)).run Try.prog (w.alloc (.cells #[.int .u8 c.toNat] 5)) = .ok (.string (one c)) (w.alloc (.cells #[.int .u8 c.toNat] 5)) :=
  run_convert_bytes_back _ 25 9 5 ⟨w.heap.size, 0, none⟩ 1 [c] Try.underlying25 Try.underlying5 Try.underlying9 (fun j hj => by
    have hj0 : j = 0 := by simpa using hj
    subst hj0
    simp [Addr.add])

set_option maxHeartbeats 400000 in
theorem cons_main (c : UInt8) (s : ByteArray) (w : World) (hs : s.size ≤ 1048576) :
    Calls Try.prog 4 #[.int .u8 c.toNat, .string s] w fun e w' => e = .returned (.bool true) ∧ Grown w w' := by
  have hcv := run_one c
  have h1 := one_size c
  go_enter Try.func4, Try.ntmps4
  go_wp2_with (go_at_call 8; go_in)
  have hl := lead_size s
  have hos : (one c ++ s).size ≤ 4194304 := by rw [ByteArray.size_append]; omega
  refine (lead_any (one c ++ s) _ hos).mono ?_
  rintro e w1 ⟨rfl, hw1⟩
  subst hw1
  go_wp2_with fail
  refine (lead_any s _ (by omega)).mono ?_
  rintro e w2 ⟨rfl, hw2⟩
  subst hw2
  go_wp2_with fail
  refine (digit_any c _).mono ?_
  rintro e w3 ⟨rfl, hw3⟩
  subst hw3
  clear hcv
  cases hd : dig c
  · rw [lead_one_no hd]
    clear hd
    go_wp2
    go_ret
    exact ⟨rfl, (Grown.refl _).alloc _ _⟩
  · have hll : lead (one c ++ lead s) = one c ++ lead s := by rw [← lead_one_yes hd, lead_lead]
    have HL := hide hll
    rw [lead_one_yes hd]
    clear hd hll
    have hos2 : (one c ++ lead s).size ≤ 4194304 := by rw [ByteArray.size_append]; omega
    go_wp2_with fail
    refine (lead_any (one c ++ lead s) _ hos2).mono ?_
    rintro e w4 ⟨rfl, hw4⟩
    subst hw4
    rw [unhide HL]
    go_wp2
    go_ret
    exact ⟨rfl, (Grown.refl _).alloc _ _⟩

/-- The guard. -/
theorem cons_out (c : Int) (s : ByteArray) (w : World) (hs : s.size ≤ maxLen) (h : 1048576 < s.size) :
    Calls Try.prog 4 #[.int .u8 c, .string s] w fun e w' => e = .returned (.bool true) ∧ Grown w w' := by
  unfold maxLen at hs
  go_enter Try.func4, Try.ntmps4
  go_wp2
  go_ret
  exact ⟨rfl, Grown.refl _⟩

end Go.Proofs.Qxb6630873a
