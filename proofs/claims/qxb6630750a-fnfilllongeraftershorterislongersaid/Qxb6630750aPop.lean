/-
  THE CONTRACT of zzPop (9).
-/
import Derived.Test.Qxb6630750aCalls
import Derived.Test.Qxb6630750aParts2
namespace Go.Proofs.Qxb6630750a
open Go.RowKit

theorem pop_any (v : Int) (w : World) (h0 : 0 ≤ v) (h1 : v ≤ 18446744073709551615) :
    Calls Try.prog 9 #[.int .u64 v] w fun e w' => e = .returned (.int .i64 (popTo v 64)) ∧ w' = w := by
  go_enter Try.func9, Try.ntmps9
  go_wp2
  go_loop [3, 4] (fun c i => ∃ k : Nat, k ≤ 64 ∧ i = .int .i64 k ∧ c = .int .i64 (popTo v k)) (fun _ i => 64 - (intOf i).toNat)
  case atStart => exact ⟨0, by omega, rfl, rfl⟩
  case round =>
    obtain ⟨k, hk, rfl, rfl⟩ := hrel
    by_cases hlt : k < 64
    · have hp := popTo_le v k
      have e1 := bit_one v k h0 h1
      have HS := hide (show popTo v (k + 1) = popTo v k + v / 2 ^ k % 2 from rfl)
      by_cases hb : v / 2 ^ k % 2 = 1
      · have hq : (bits BinOp.and IntKind.u64 (v / 2 ^ k) 1 == 1) = true := by rw [e1, hb]; rfl
        have Hb := hide hb
        clear e1 hb
        go_wp2
        go_round
        case rel => exact ⟨k + 1, by omega, by go_num, by rw [unhide HS, unhide Hb]⟩
        case measure => simp [intOf]; omega
      · have hq : (bits BinOp.and IntKind.u64 (v / 2 ^ k) 1 == 1) = false := by rw [e1]; simpa using hb
        have hz : v / 2 ^ k % 2 = 0 := by
          have h2 := Int.emod_nonneg (v / 2 ^ k) (show (2 : Int) ≠ 0 by omega)
          have h3 := Int.emod_lt_of_pos (v / 2 ^ k) (show (0 : Int) < 2 by omega)
          omega
        have Hb := hide hz
        clear e1 hb hz
        go_wp2
        go_round
        case rel => exact ⟨k + 1, by omega, by go_num, by rw [unhide HS, unhide Hb, Int.add_zero]⟩
        case measure => simp [intOf]; omega
    · have hk64 : k = 64 := by omega
      subst hk64
      go_wp2
      go_ret
      exact ⟨rfl, rfl⟩

end Go.Proofs.Qxb6630750a
