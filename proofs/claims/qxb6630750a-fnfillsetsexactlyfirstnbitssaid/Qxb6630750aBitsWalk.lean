/-
  THE WALK of FnFillSetsExactlyFirstNBits (3).
-/
import Derived.Test.Qxb6630750aCalls
import Derived.Deep.QuietTactic
import Derived.BigQuiet
import Derived.OpenShut
namespace Go.Proofs.Qxb6630750a
open Go.RowKit

theorem add_plain0 (g i : Nat) : (⟨g, 0, none⟩ : Addr).add i = ⟨g, i, none⟩ := by
  unfold Addr.add
  by_cases h : i = 0 <;> simp [h]

/-- A clone of a row of the call's own. -/
theorem clone_blk (g n : Nat) (l : List Int) (w : World) (hn : n ≤ 65536) (hl : l.length = n) (hB : Blk w g l) :
    Calls Try.prog 6 #[.slice (some ⟨g, 0, none⟩) n n] w fun e w' => e = .returned (.slice (some ⟨w.heap.size, 0, none⟩) n n) ∧ Below w.heap.size w w' ∧ w'.heap.size = w.heap.size + 1 ∧ Blk w' w.heap.size l := by
  have h := clone_row ⟨g, 0, none⟩ n n l w hn (by omega) (fun i hi => by rw [add_plain0]; exact hB.cell (j := i) (by omega))
  rw [List.take_of_length_le (by omega)] at h
  exact h

set_option maxHeartbeats 400000 in
theorem bits_main (x : Addr) (n c m : Nat) (z : List Int) (w : World) (hn : n ≤ 65536) (hz : n ≤ z.length) (hm : m ≤ 64 * n) (hc : ∀ i, i < n → w.cell? (x.add i) = some (.int .u64 (z.getD i 0)))
    (hw : ∀ i, i < n → 0 ≤ z.getD i 0 ∧ z.getD i 0 ≤ 18446744073709551615) :
    Calls Try.prog 3 #[.slice (some x) n c, .int .i64 m] w fun e w' => e = .returned (.bool true) ∧ Below w.heap.size w w' := by
  have HW := hide hw
  have HC := hide hc
  clear hw hc
  have d1 : decide ((65536 : Int) < (n : Int)) = false := decide_eq_false (by omega)
  have d2 : decide ((m : Int) < 0) = false := decide_eq_false (by omega)
  have d3 : decide (64 * (n : Int) < (m : Int)) = false := decide_eq_false (by omega)
  go_enter Try.func3, Try.ntmps3
  go_wp2_with (go_at_call 5; go_in)
  refine (clone_row x n c z _ hn hz (unhide HC)).mono ?_
  rintro e w1 ⟨rfl, b1, s1, B1⟩
  have HB1 := hide B1
  clear B1
  go_wp2_with fail
  refine (clone_blk w.heap.size n (z.take n) _ hn (by simp; omega) (unhide HB1)).mono ?_
  rintro e w2 ⟨rfl, b2, s2, B2⟩
  have B1 := (unhide HB1).below b2 (by omega)
  rw [s1] at B2 b2 s2
  clear HB1
  have HB := hide (And.intro B1 B2)
  clear B1 B2
  go_wp2_with fail
  refine (zzfill_row w.heap.size n m (z.take n) _ hn (by simp; omega) hm (unhide HB).1).mono ?_
  rintro e w3 ⟨rfl, g3, s3, B3⟩
  have C3 := (unhide HB).2.kept g3 (by omega)
  have b3 : Below w.heap.size w w3 := ((b1.trans (b2.mono (by omega))).grown g3 (by omega) (by intro k hk; cases hk; exact Nat.le_refl _))
  have HB3 := hide (And.intro B3 C3)
  clear B3 C3 HB g3 s3 b1 b2 s2 HC
  go_wp2_with fail
  go_loopw [7] (fun i wr => ∃ k : Nat, k ≤ n ∧ i = .int .i64 k ∧ Below w.heap.size w wr ∧ Blk wr w.heap.size (fillL (z.take n) m) ∧ Blk wr (w.heap.size + 1) (z.take n)) (fun i _ => n - (intOf i).toNat)
  case atStart => exact ⟨0, Nat.zero_le _, rfl, b3, (unhide HB3).1, (unhide HB3).2⟩
  case round =>
    clear HB3 b3
    obtain ⟨k, hk, rfl, hb, hS, hO⟩ := hrel
    by_cases hlt : k < n
    · have hx := unhide HW k hlt
      have cS := hS.cell (j := k) (by rw [fillL_len]; simp; omega)
      have cO := hO.cell (j := k) (by simp; omega)
      rw [fillL_getD (by simp; omega)] at cS
      have ez : (z.take n).getD k 0 = z.getD k 0 := by simp [hlt]
      rw [ez] at cS cO
      clear ez
      have HSO := hide (And.intro hS hO)
      clear hS hO
      have hkn : (k : Int) < (n : Int) := by omega
      by_cases ht : (m + 63) / 64 ≤ k
      · have ht' : ((m : Int) + 63) / 64 ≤ (k : Int) := by omega
        have ef : fw m k (z.getD k 0) = z.getD k 0 := by
          unfold fw; rw [if_neg (by omega), if_neg (by omega)]
        rw [ef] at cS
        clear ef hx
        generalize z.getD k 0 = v at cS cO
        go_wp2
        go_quiet (fail)
        go_wp2
        go_roundw
        case rel => exact ⟨k + 1, by omega, by go_num, below_drewN hb _, (unhide HSO).1, (unhide HSO).2⟩
        case measure => simp [intOf]; omega
      · have ht' : ¬ ((m : Int) + 63) / 64 ≤ (k : Int) := by omega
        have hv := fw_bounds (m := m) (j := k) hx.1 hx.2
        have Hbit := hide (word_bits m k (z.getD k 0) (by omega))
        clear hx cO
        generalize fw m k (z.getD k 0) = v at cS hv Hbit
        go_wp2
        go_loop [8] (fun i => ∃ j : Nat, j ≤ 64 ∧ i = .int .i64 j) (fun i => 64 - (intOf i).toNat)
        case atStart => exact ⟨0, by omega, rfl⟩
        case round =>
          obtain ⟨j, hj, rfl⟩ := hrel
          by_cases hj64 : j < 64
          · have hq := bit_test v j (64 * (k : Int) + (j : Int) < (m : Int)) hv.1 hv.2 (by
              rw [unhide Hbit j hj64]
              by_cases hc : 64 * k + j < m
              · rw [if_pos hc, if_pos (by omega)]
              · rw [if_neg hc, if_neg (by omega)])
            go_wp2
            go_round
            case rel => exact ⟨j + 1, by omega, by go_num⟩
            case measure => simp [intOf]; omega
          · go_wp2
            go_roundw
            case rel => exact ⟨k + 1, by omega, by go_num, hb, (unhide HSO).1, (unhide HSO).2⟩
            case measure => simp [intOf]; omega
    · go_wp2
      go_ret
      exact ⟨rfl, hb⟩

theorem bits_nil (w : World) : Calls Try.prog 3 #[.slice none 0 0, .int .i64 0] w fun e w' => e = .returned (.bool true) ∧ Below w.heap.size w w' := by
  go_enter Try.func3, Try.ntmps3
  go_wp2_with (first | (go_at_call 5; go_in) | (go_at_call 6; refine (clone_nil _).mono ?_; rintro e w' ⟨rfl, rfl⟩) | (go_at_call 7; refine (zzfill_nil _).mono ?_; rintro e w' ⟨rfl, rfl⟩))
  refine wp_loop_rounds 1 ?_
  rw [rounds_succ]
  go_wp2
  go_ret
  exact ⟨rfl, Below.refl _ _⟩

/-- The guards: too long, or n out of range. -/
theorem bits_out (a : Option Addr) (n c : Nat) (m : Int) (w : World) (hn : n ≤ maxLen) (h : 65536 < n ∨ m < 0 ∨ 64 * (n : Int) < m) :
    Calls Try.prog 3 #[.slice a n c, .int .i64 m] w fun e w' => e = .returned (.bool true) ∧ Below w.heap.size w w' := by
  unfold maxLen at hn
  by_cases h1 : 1048576 < n
  · clear h
    go_enter Try.func3, Try.ntmps3
    go_wp2
    go_ret
    exact ⟨rfl, Below.refl _ _⟩
  · by_cases h2 : 65536 < n
    · clear h
      go_enter Try.func3, Try.ntmps3
      go_wp2
      go_ret
      exact ⟨rfl, Below.refl _ _⟩
    · by_cases h3 : m < 0
      · clear h
        go_enter Try.func3, Try.ntmps3
        go_wp2
        go_ret
        exact ⟨rfl, Below.refl _ _⟩
      · have h4 : 64 * (n : Int) < m := by omega
        clear h
        go_enter Try.func3, Try.ntmps3
        go_wp2
        go_ret
        exact ⟨rfl, Below.refl _ _⟩

end Go.Proofs.Qxb6630750a
