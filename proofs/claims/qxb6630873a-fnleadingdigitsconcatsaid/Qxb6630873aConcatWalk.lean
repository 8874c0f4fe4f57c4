/-
  THE WALK of FnLeadingDigitsConcat (3).
-/
import Derived.Test.Qxb6630873aLead
namespace Go.Proofs.Qxb6630873a
open Go.RowKit

theorem grown_drewN (w : World) (n : Nat) : Grown w (w.drewN n) := Grown.refl w

set_option maxHeartbeats 400000 in
theorem concat_main (a b : ByteArray) (w : World) (ha : a.size ≤ 524288) (hb : b.size ≤ 524288) :
    Calls Try.prog 3 #[.string a, .string b] w fun e w' => e = .returned (.bool true) ∧ Grown w w' := by
  go_enter Try.func3, Try.ntmps3
  go_wp2_with (go_at_call 5; go_in)
  refine (lead_any a _ (by omega)).mono ?_
  rintro e w' ⟨rfl, rfl⟩
  go_wp2_with fail
  refine (lead_any b _ (by omega)).mono ?_
  rintro e w ⟨rfl, rfl⟩
  go_wp2_with fail
  refine (lead_any (a ++ b) _ (by rw [ByteArray.size_append]; omega)).mono ?_
  rintro e w' ⟨rfl, rfl⟩
  go_wp2_with fail
  refine (maximal_lead a _ (by omega)).mono ?_
  rintro e w1 ⟨rfl, n, rfl⟩
  have hla := lead_size a
  have hlb := lead_size b
  by_cases h : (lead a).size = a.size
  · rw [lead_all h]
    have hq : (((lead a).size : Int) == (a.size : Int)) = true := by simp [h]
    clear h
    go_wp2
    go_ret
    exact ⟨rfl, grown_drewN _ _⟩
  · rw [lead_part h]
    have hq : (((lead a).size : Int) == (a.size : Int)) = false := by simp; omega
    clear h
    go_wp2
    go_ret
    exact ⟨rfl, grown_drewN _ _⟩

/-- The guards. -/
theorem concat_out (a b : ByteArray) (w : World) (ha : a.size ≤ maxLen) (hb : b.size ≤ maxLen) (h : 524288 < a.size ∨ 524288 < b.size) :
    Calls Try.prog 3 #[.string a, .string b] w fun e w' => e = .returned (.bool true) ∧ Grown w w' := by
  unfold maxLen at ha hb
  by_cases h1 : 1048576 < a.size
  · clear h
    go_enter Try.func3, Try.ntmps3
    go_wp2
    go_ret
    exact ⟨rfl, Grown.refl _⟩
  · by_cases h2 : 1048576 < b.size
    · clear h
      go_enter Try.func3, Try.ntmps3
      go_wp2
      go_ret
      exact ⟨rfl, Grown.refl _⟩
    · by_cases h3 : 1048576 < a.size + b.size
      · clear h
        go_enter Try.func3, Try.ntmps3
        go_wp2
        go_ret
        exact ⟨rfl, Grown.refl _⟩
      · by_cases h4 : 524288 < a.size
        · clear h
          go_enter Try.func3, Try.ntmps3
          go_wp2
          go_ret
          exact ⟨rfl, Grown.refl _⟩
        · have h5 : 524288 < b.size := by omega
          clear h
          go_enter Try.func3, Try.ntmps3
          go_wp2
          go_ret
          exact ⟨rfl, Grown.refl _⟩

end Go.Proofs.Qxb6630873a
