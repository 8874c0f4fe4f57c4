/-
  THE CONTRACTS of LeadingDigits (6), zzIsDigit (9).
-/
import Derived.Test.Qxb6630873aRows
import Derived.Test.Qxb6630873aParts
namespace Go.Proofs.Qxb6630873a
open Go.RowKit

set_option maxHeartbeats 400000 in
theorem lead_any (s : ByteArray) (w : World) (hs : s.size ≤ 4194304) :
    Calls Try.prog 6 #[.string s] w fun e w' => e = .returned (.string (lead s)) ∧ w' = w := by
  go_enter Try.func6, Try.ntmps6
  go_wp2
  go_loop [3] (fun i => ∃ k : Nat, k ≤ s.size ∧ i = .int .i64 k ∧ Hid (∀ (i : Nat) (hi : i < s.size), i < k → dig s[i] = true)) (fun i => s.size - (intOf i).toNat)
  case atStart => exact ⟨0, Nat.zero_le _, rfl, fun _ _ h => absurd h (Nat.not_lt_zero _)⟩
  case round =>
    obtain ⟨k, hk, rfl, HD⟩ := hrel
    by_cases hlt : k < s.size
    · by_cases h1 : 48 ≤ (s[k].toNat : Int)
      · by_cases h2 : (s[k].toNat : Int) ≤ 57
        · have Hd := hide (dig_yes h1 h2)
          go_wp2
          go_round
          case rel =>
            refine ⟨k + 1, by omega, by go_num, fun i hi hik => ?_⟩
            by_cases e : i = k
            · subst e; exact unhide Hd
            · exact unhide HD i hi (by omega)
          case measure => simp [intOf]; omega
        · have He := hide (lead_extract hk (unhide HD) (fun _ => dig_no2 h2))
          go_wp2
          go_ret
          exact ⟨by rw [unhide He]; rfl, rfl⟩
      · have He := hide (lead_extract hk (unhide HD) (fun _ => dig_no1 h1))
        go_wp2
        go_ret
        exact ⟨by rw [unhide He]; rfl, rfl⟩
    · have He := hide (lead_extract hk (unhide HD) (fun h => absurd h hlt))
      go_wp2
      go_ret
      exact ⟨by rw [unhide He]; rfl, rfl⟩

theorem digit_any (c : UInt8) (w : World) : Calls Try.prog 9 #[.int .u8 c.toNat] w fun e w' => e = .returned (.bool (dig c)) ∧ w' = w := by
  by_cases h1 : 48 ≤ (c.toNat : Int)
  · by_cases h2 : (c.toNat : Int) ≤ 57
    · have He := hide (dig_yes h1 h2)
      go_enter Try.func9, Try.ntmps9
      go_wp2
      go_ret
      exact ⟨by rw [unhide He]; rfl, rfl⟩
    · have He := hide (dig_no2 h2)
      go_enter Try.func9, Try.ntmps9
      go_wp2
      go_ret
      exact ⟨by rw [unhide He]; rfl, rfl⟩
  · have He := hide (dig_no1 h1)
    go_enter Try.func9, Try.ntmps9
    go_wp2
    go_ret
    exact ⟨by rw [unhide He]; rfl, rfl⟩

set_option maxHeartbeats 400000 in
/-- A run of digits at the head that no digit follows is told to be the longest one. -/
theorem maximal_any (s p : ByteArray) (w : World) (hs : s.size ≤ 4194304) (hp : p.size ≤ s.size) (hG : ∀ (i : Nat) (h : i < p.size) (h2 : i < s.size), p[i] = s[i] ∧ dig p[i] = true) (hE : ∀ h : p.size < s.size, dig s[p.size] = false) :
    Calls Try.prog 7 #[.string s, .string p] w fun e w' => e = .returned (.bool true) ∧ ∃ n, w' = w.drewN n := by
  have HG := hide hG
  have HE := hide hE
  clear hG hE
  have d1 : decide (s.size < p.size) = false := decide_eq_false (by omega)
  go_enter Try.func7, Try.ntmps7
  go_wp2
  go_loopw [5] (fun i wr => ∃ k n : Nat, k ≤ p.size ∧ i = .int .i64 k ∧ wr = w.drewN n) (fun i _ => p.size - (intOf i).toNat)
  case atStart => exact ⟨0, 0, Nat.zero_le _, rfl, rfl⟩
  case round =>
    obtain ⟨k, n, hk, rfl, rfl⟩ := hrel
    by_cases hlt : k < p.size
    · have hks : k < s.size := by omega
      obtain ⟨g1, g2⟩ := (unhide HG) k hlt hks
      have Hd := hide g2
      have hv : (s[k].toNat : Int) = p[k].toNat := by rw [g1]
      clear g2 g1
      go_wp2
      go_quiet (fail)
      go_wp2_with fail
      refine (digit_any _ _).mono ?_
      rintro e w' ⟨rfl, rfl⟩
      rw [unhide Hd]
      clear hv
      go_wp2
      go_roundw
      case rel => exact ⟨k + 1, _, by omega, by go_num, rfl⟩
      case measure => simp [intOf]; omega
    · by_cases hlt2 : p.size < s.size
      · have Hd := hide ((unhide HE) hlt2)
        go_wp2_with fail
        refine (digit_any _ _).mono ?_
        rintro e w' ⟨rfl, rfl⟩
        rw [unhide Hd]
        go_wp2
        go_ret
        exact ⟨rfl, n, rfl⟩
      · go_wp2
        go_ret
        exact ⟨rfl, n, rfl⟩

theorem maximal_lead (s : ByteArray) (w : World) (hs : s.size ≤ 4194304) :
    Calls Try.prog 7 #[.string s, .string (lead s)] w fun e w' => e = .returned (.bool true) ∧ ∃ n, w' = w.drewN n :=
  maximal_any s (lead s) w hs (lead_size s) (fun _ h _ => lead_get h) (fun h => lead_stop h)

end Go.Proofs.Qxb6630873a
