/-
  THE WALK of FnFillLongerAfterShorterIsLonger (4).
-/
import Derived.Test.Qxb6630750aPop
import Derived.Deep.QuietTactic
import Derived.BigQuiet
import Derived.OpenShut
namespace Go.Proofs.Qxb6630750a
open Go.RowKit

theorem add_own (g i : Nat) : (⟨g, 0, none⟩ : Addr).add i = ⟨g, i, none⟩ := by
  unfold Addr.add
  by_cases h : i = 0 <;> simp [h]

/-- A clone of a row of the call's own. -/
theorem clone_own (g n : Nat) (l : List Int) (w : World) (hn : n ≤ 65536) (hl : l.length = n) (hB : Blk w g l) :
    Calls Try.prog 6 #[.slice (some ⟨g, 0, none⟩) n n] w fun e w' => e = .returned (.slice (some ⟨w.heap.size, 0, none⟩) n n) ∧ Below w.heap.size w w' ∧ w'.heap.size = w.heap.size + 1 ∧ Blk w' w.heap.size l := by
  have h := clone_row ⟨g, 0, none⟩ n n l w hn (by omega) (fun i hi => by rw [add_own]; exact hB.cell (j := i) (by omega))
  rw [List.take_of_length_le (by omega)] at h
  exact h

set_option maxHeartbeats 400000 in
theorem longer_main (x : Addr) (n c p m : Nat) (z : List Int) (w : World) (hn : n ≤ 65536) (hz : n ≤ z.length) (hp : p ≤ m) (hm : m ≤ 64 * n) (hc : ∀ i, i < n → w.cell? (x.add i) = some (.int .u64 (z.getD i 0)))
    (hw : ∀ i, i < n → 0 ≤ z.getD i 0 ∧ z.getD i 0 ≤ 18446744073709551615) :
    Calls Try.prog 4 #[.slice (some x) n c, .int .i64 p, .int .i64 m] w fun e w' => e = .returned (.bool true) ∧ Below w.heap.size w w' := by
  have HW := hide hw
  have HC := hide hc
  clear hw hc
  have d1 : decide ((65536 : Int) < (n : Int)) = false := decide_eq_false (by omega)
  have d2 : decide ((p : Int) < 0) = false := decide_eq_false (by omega)
  have d3 : decide ((m : Int) < (p : Int)) = false := decide_eq_false (by omega)
  have d4 : decide (64 * (n : Int) < (m : Int)) = false := decide_eq_false (by omega)
  go_enter Try.func4, Try.ntmps4
  go_wp2_with (go_at_call 8; go_in)
  refine (clone_row x n c z _ hn hz (unhide HC)).mono ?_
  rintro e w1 ⟨rfl, b1, s1, B1⟩
  clear HC
  have HB1 := hide B1
  clear B1
  go_wp2_with fail
  refine (clone_own w.heap.size n (z.take n) _ hn (by simp; omega) (unhide HB1)).mono ?_
  rintro e w2 ⟨rfl, b2, s2, B2⟩
  have B1 := (unhide HB1).below b2 (by omega)
  rw [s1] at B2 b2 s2
  have b12 := b1.trans (b2.mono (by omega))
  clear HB1 b1 b2
  have HB2 := hide (And.intro B1 B2)
  clear B1 B2
  go_wp2_with fail
  refine (clone_own w.heap.size n (z.take n) _ hn (by simp; omega) (unhide HB2).1).mono ?_
  rintro e w3 ⟨rfl, b3, s3, B3⟩
  have B1 := (unhide HB2).1.below b3 (by omega)
  have B2 := (unhide HB2).2.below b3 (by omega)
  rw [s2] at B3 b3 s3
  have b13 := b12.trans (b3.mono (by omega))
  clear HB2 b12 b3
  have HB3 := hide (And.intro B1 (And.intro B2 B3))
  clear B1 B2 B3
  go_wp2_with fail
  refine (zzfill_row (w.heap.size + 1) n p (z.take n) _ hn (by simp; omega) (by omega) (unhide HB3).2.1).mono ?_
  rintro e w4 ⟨rfl, g4, s4, A4⟩
  have S4 := (unhide HB3).1.kept g4 (by omega)
  have B4 := (unhide HB3).2.2.kept g4 (by omega)
  have b4 := b13.grown g4 (by omega) (by intro k hk; cases hk; omega)
  rw [s3] at s4
  clear HB3 g4 b13 s3
  have HB4 := hide (And.intro S4 (And.intro A4 B4))
  clear S4 A4 B4
  go_wp2_with fail
  refine (zzfill_row (w.heap.size + 1) n m (fillL (z.take n) p) _ hn (by rw [fillL_len]; simp; omega) hm (unhide HB4).2.1).mono ?_
  rintro e w5 ⟨rfl, g5, s5, A5⟩
  rw [fillL_fillL _ _ _ hp] at A5
  have S5 := (unhide HB4).1.kept g5 (by omega)
  have B5 := (unhide HB4).2.2.kept g5 (by omega)
  have b5 := b4.grown g5 (by omega) (by intro k hk; cases hk; omega)
  rw [s4] at s5
  clear HB4 g5 b4 s4
  have HB5 := hide (And.intro S5 (And.intro A5 B5))
  clear S5 A5 B5
  go_wp2_with fail
  refine (zzfill_row (w.heap.size + 2) n m (z.take n) _ hn (by simp; omega) hm (unhide HB5).2.2).mono ?_
  rintro e w6 ⟨rfl, g6, s6, B6⟩
  have S6 := (unhide HB5).1.kept g6 (by omega)
  have A6 := (unhide HB5).2.1.kept g6 (by omega)
  have b6 := b5.grown g6 (by omega) (by intro k hk; cases hk; omega)
  clear HB5 g6 b5 s5 s6
  have HB6 := hide (And.intro S6 (And.intro A6 B6))
  clear S6 A6 B6
  go_wp2_with fail
  go_loopw [9] (fun i wr => ∃ k : Nat, k ≤ n ∧ i = .int .i64 k ∧ Below w.heap.size w wr ∧ Blk wr w.heap.size (z.take n) ∧ Blk wr (w.heap.size + 1) (fillL (z.take n) m) ∧ Blk wr (w.heap.size + 2) (fillL (z.take n) m)) (fun i _ => n - (intOf i).toNat)
  case atStart => exact ⟨0, Nat.zero_le _, rfl, b6, (unhide HB6).1, (unhide HB6).2.1, (unhide HB6).2.2⟩
  case round =>
    clear HB6 b6
    obtain ⟨k, hk, rfl, hb, hS, hA, hB⟩ := hrel
    by_cases hlt : k < n
    · have cA := hA.cell (j := k) (by rw [fillL_len]; simp; omega)
      have cB := hB.cell (j := k) (by rw [fillL_len]; simp; omega)
      have H3 := hide (And.intro hS (And.intro hA hB))
      clear hS hA hB
      have hkn : (k : Int) < (n : Int) := by omega
      generalize (fillL (z.take n) m).getD k 0 = v at cA cB
      go_wp2
      go_quiet (fail)
      go_wp2
      go_roundw
      case rel => exact ⟨k + 1, by omega, by go_num, below_drewN hb _, (unhide H3).1, (unhide H3).2.1, (unhide H3).2.2⟩
      case measure => simp [intOf]; omega
    · have H3 := hide (And.intro hS (And.intro hA hB))
      clear hS hA hB
      go_wp2
      go_loopw [11, 12] (fun c i wr => ∃ k : Nat, k ≤ n ∧ i = .int .i64 k ∧ c = .int .i64 (cnt m k) ∧ Below w.heap.size w wr ∧ Blk wr w.heap.size (z.take n) ∧ Blk wr (w.heap.size + 2) (fillL (z.take n) m)) (fun _ i _ => n - (intOf i).toNat)
      case atStart => exact ⟨0, Nat.zero_le _, rfl, by simp [cnt]; omega, hb, (unhide H3).1, (unhide H3).2.2⟩
      case round =>
        clear H3 hb
        obtain ⟨k, hk, rfl, rfl, hb, hS, hB⟩ := hrel
        have hcb := cnt_bounds m k (by omega)
        by_cases hlt : k < n
        · have hx := unhide HW k hlt
          have cS := hS.cell (j := k) (by simp; omega)
          have cB := hB.cell (j := k) (by rw [fillL_len]; simp; omega)
          rw [fillL_getD (by simp; omega)] at cB
          have ez : (z.take n).getD k 0 = z.getD k 0 := by simp [hlt]
          rw [ez] at cS cB
          clear ez
          have H3 := hide (And.intro hS hB)
          clear hS hB
          have hkn : (k : Int) < (n : Int) := by omega
          by_cases ht : (m + 63) / 64 ≤ k
          · have ht' : ¬ (k : Int) < ((m : Int) + 63) / 64 := by omega
            have ef : fw m k (z.getD k 0) = z.getD k 0 := by
              unfold fw; rw [if_neg (by omega), if_neg (by omega)]
            rw [ef] at cB
            have Hc := hide (cnt_past m k (by omega))
            clear ef hx
            generalize z.getD k 0 = v at cS cB
            go_wp2
            go_quiet (fail)
            go_wp2
            go_roundw
            case rel => exact ⟨k + 1, by omega, by go_num, by rw [← unhide Hc], below_drewN hb _, (unhide H3).1, (unhide H3).2⟩
            case measure => simp [intOf]; omega
          · have ht' : (k : Int) < ((m : Int) + 63) / 64 := by omega
            have hv := fw_bounds (m := m) (j := k) hx.1 hx.2
            have Hc := hide (cnt_step m k (z.getD k 0) (by omega))
            clear hx cS
            generalize fw m k (z.getD k 0) = v at cB hv Hc
            have hpl := popTo_le v 64
            go_wp2_with (go_at_call 9; refine (pop_any v _ hv.1 hv.2).mono ?_; rintro e w' ⟨rfl, rfl⟩)
            go_roundw
            case rel => exact ⟨k + 1, by omega, by go_num, by rw [← unhide Hc], hb, (unhide H3).1, (unhide H3).2⟩
            case measure => simp [intOf]; omega
        · have hkn : k = n := by omega
          subst hkn
          have he : (cnt m k == (m : Int)) = true := by rw [cnt_end m k hm]; simp
          go_wp2
          go_ret
          exact ⟨rfl, hb⟩

theorem longer_nil (w : World) : Calls Try.prog 4 #[.slice none 0 0, .int .i64 0, .int .i64 0] w fun e w' => e = .returned (.bool true) ∧ Below w.heap.size w w' := by
  go_enter Try.func4, Try.ntmps4
  go_wp2_with (first | (go_at_call 8; go_in) | (go_at_call 6; refine (clone_nil _).mono ?_; rintro e w' ⟨rfl, rfl⟩) | (go_at_call 7; refine (zzfill_nil _).mono ?_; rintro e w' ⟨rfl, rfl⟩))
  refine wp_loop_rounds 1 ?_
  rw [rounds_succ]
  go_wp2
  refine wp_loop_rounds 1 ?_
  rw [rounds_succ]
  go_wp2
  go_ret
  exact ⟨rfl, Below.refl _ _⟩

/-- The guards: too long, or n, m out of range. -/
theorem longer_out (a : Option Addr) (n c : Nat) (p m : Int) (w : World) (hn : n ≤ maxLen) (h : 65536 < n ∨ p < 0 ∨ m < p ∨ 64 * (n : Int) < m) :
    Calls Try.prog 4 #[.slice a n c, .int .i64 p, .int .i64 m] w fun e w' => e = .returned (.bool true) ∧ Below w.heap.size w w' := by
  unfold maxLen at hn
  by_cases h1 : 1048576 < n
  · clear h
    go_enter Try.func4, Try.ntmps4
    go_wp2
    go_ret
    exact ⟨rfl, Below.refl _ _⟩
  · by_cases h2 : 65536 < n
    · clear h
      go_enter Try.func4, Try.ntmps4
      go_wp2
      go_ret
      exact ⟨rfl, Below.refl _ _⟩
    · by_cases h3 : p < 0
      · clear h
        go_enter Try.func4, Try.ntmps4
        go_wp2
        go_ret
        exact ⟨rfl, Below.refl _ _⟩
      · by_cases h4 : m < p
        · clear h
          go_enter Try.func4, Try.ntmps4
          go_wp2
          go_ret
          exact ⟨rfl, Below.refl _ _⟩
        · have h5 : 64 * (n : Int) < m := by omega
          clear h
          go_enter Try.func4, Try.ntmps4
          go_wp2
          go_ret
          exact ⟨rfl, Below.refl _ _⟩

end Go.Proofs.Qxb6630750a
