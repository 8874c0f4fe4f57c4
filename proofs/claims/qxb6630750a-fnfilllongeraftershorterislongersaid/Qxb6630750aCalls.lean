/-
  THE CONTRACTS of the functions on both roads: zzClone (6), Bitset.fill (10), ZZfill (7).
-/
import Derived.Test.Qxb6630750aRows
import Derived.Test.Qxb6630750aParts
namespace Go.Proofs.Qxb6630750a
open Go.RowKit

theorem Try.info27 : (Try.prog.info? 27).map (fun i => (i.zero, i.size, i.bytes)) = some (some (.int .u64 0), 1, 8) := by kernel_rfl

/-- A slice that is not nil: a new row with the same numbers. -/
theorem clone_row (x : Addr) (n c : Nat) (z : List Int) (w : World) (hn : n ≤ 65536) (hz : n ≤ z.length) (hc : ∀ i, i < n → w.cell? (x.add i) = some (.int .u64 (z.getD i 0))) :
    Calls Try.prog 6 #[.slice (some x) n c] w fun e w' => e = .returned (.slice (some ⟨w.heap.size, 0, none⟩) n n) ∧ Below w.heap.size w w' ∧ w'.heap.size = w.heap.size + 1 ∧ Blk w' w.heap.size (z.take n) := by
  have hq := fun (w : World) => Lib.run_eql_slice_nil (P := Try.prog) w 22 27 (some x) n c 0 0 Try.underlying22
  have hmk := run_make_row' (P := Try.prog) 22 27 (.int .u64 0) 8 Try.underlying22 Try.info27 rfl .i64 .i64 n (by omega) (by omega)
  go_enter Try.func6, Try.ntmps6
  go_wp2
  go_loopw [4] (fun i wr => ∃ k : Nat, k ≤ n ∧ i = .int .i64 k ∧ Below w.heap.size w wr ∧ wr.heap.size = w.heap.size + 1 ∧ Blk wr w.heap.size (clo z n k)) (fun i _ => n - (intOf i).toNat)
  case atStart => exact ⟨0, Nat.zero_le _, rfl, (Below.refl _ _).alloc (Nat.le_refl _) _, by simp, clo_zero _ _ _⟩
  case round =>
    obtain ⟨k, hk, rfl, hb, hs, hB⟩ := hrel
    clear hq hmk
    by_cases hlt : k < n
    · have hx : wr.cell? (x.add k) = some (.int .u64 (z.getD k 0)) := by
        have h1 := hc k hlt
        rw [hb.cell (World.block_lt_of_cell? w _ h1)]; exact h1
      have hfr := hB.free k
      have hst := clo_step hB hlt hz
      have hcl := hB.cell (j := k) (by rw [clo_len hk hz]; exact hlt)
      have Hst : Hid (Blk (wr.setCell ⟨w.heap.size, k, none⟩ (.int .u64 (z.getD k 0))) w.heap.size (clo z n (k + 1))) := hst
      clear hst hB hc
      go_wp2
      go_roundw
      case rel => exact ⟨k + 1, by omega, by go_num, hb.setCell (Nat.le_refl _) _, by simpa [World.setCell] using hs, by simpa using Hst.out⟩
      case measure => simp [intOf]; omega
    · have hkn : k = n := by omega
      subst hkn
      go_wp2
      go_ret
      exact ⟨rfl, hb, hs, by rw [← clo_all]; exact hB⟩

theorem grown_set {w wr : World} {g : Nat} (h : w.grownBy wr (some g)) (j : Nat) (v : Value) : w.grownBy (wr.setCell ⟨g, j, none⟩ v) (some g) :=
  ⟨h.os, h.tape, h.output, by simpa [World.setCell] using h.size, fun k hk hne => by rw [heap_setCell_other _ _ _ _ (by simpa using hne)]; exact h.block k hk hne⟩

/-- fill on a row of the call's own. -/
theorem fill_row (g n m : Nat) (l : List Int) (w : World) (hn : n ≤ 65536) (hl : l.length = n) (hm : m ≤ 64 * n) (hB : Blk w g l) :
    Calls Try.prog 10 #[.slice (some ⟨g, 0, none⟩) n n, .int .i64 m] w fun e w' => e = .returned (.tuple #[]) ∧ w.grownBy w' (some g) ∧ w'.heap.size = w.heap.size ∧ Blk w' g (fillL l m) := by
  go_enter Try.func10, Try.ntmps10
  go_wp2
  go_loopw [8] (fun i wr => ∃ k : Nat, k ≤ m / 64 ∧ i = .int .i64 k ∧ w.grownBy wr (some g) ∧ wr.heap.size = w.heap.size ∧ Blk wr g (fillTo l k)) (fun i _ => m / 64 - (intOf i).toNat)
  case atStart => exact ⟨0, Nat.zero_le _, rfl, World.grownBy.refl _ _, rfl, by rw [fillTo_zero]; exact hB⟩
  case round =>
    obtain ⟨k, hk, rfl, hb, hs, hB'⟩ := hrel
    clear hB
    have hfr := hB'.free
    by_cases hlt : k < m / 64
    · have hcl := hB'.cell (j := k) (by rw [fillTo_len]; omega)
      have Hst := hide (fillTo_step hB')
      have hkn : (k : Int) < n := by omega
      have hkm : (k : Int) < (m : Int) / 64 := by omega
      clear hB'
      go_wp2
      go_roundw
      case rel => exact ⟨k + 1, by omega, by go_num, grown_set hb _ _, by simpa [World.setCell] using hs, unhide Hst⟩
      case measure => simp [intOf]; omega
    · have hkm : ¬ (k : Int) < (m : Int) / 64 := by omega
      have hke : k = m / 64 := by omega
      by_cases hr : m % 64 = 0
      · have hr1 : ((m : Int) % 64 != 0) = false := by simp; omega
        rw [hke, fill_even hr] at hB'
        clear hke
        go_wp2
        go_end0
        exact ⟨rfl, hb, hs, hB'⟩
      · have hr1 : ((m : Int) % 64 != 0) = true := by simp; omega
        rw [hke] at hB'
        have hcl := hB'.cell (j := m / 64) (by rw [fillTo_len]; omega)
        have Hst := hide (fill_odd hr hB')
        have hdn : (m : Int) / 64 < n := by omega
        clear hB' hke
        go_wp2
        go_end0
        rw [wrap_mask _ (Nat.mod_lt _ (by omega))]
        exact ⟨rfl, grown_set hb _ _, by simpa [World.setCell] using hs, unhide Hst⟩

/-- 'ZZfill' hands on. -/
theorem zzfill_row (g n m : Nat) (l : List Int) (w : World) (hn : n ≤ 65536) (hl : l.length = n) (hm : m ≤ 64 * n) (hB : Blk w g l) :
    Calls Try.prog 7 #[.slice (some ⟨g, 0, none⟩) n n, .int .i64 m] w fun e w' => e = .returned (.tuple #[]) ∧ w.grownBy w' (some g) ∧ w'.heap.size = w.heap.size ∧ Blk w' g (fillL l m) := by
  go_enter Try.func7, Try.ntmps7
  go_wp2_with fail
  refine (fill_row g n m l _ hn hl hm hB).mono ?_
  rintro e w' ⟨rfl, h1, h2, h3⟩
  go_wp2
  go_end0
  exact ⟨rfl, h1, h2, h3⟩

/-! ### nil -/
theorem clone_nil (w : World) : Calls Try.prog 6 #[.slice none 0 0] w fun e w' => e = .returned (.slice none 0 0) ∧ w' = w := by
  have hq := fun (w : World) => Lib.run_eql_slice_nil (P := Try.prog) w 22 27 none 0 0 0 0 Try.underlying22
  go_enter Try.func6, Try.ntmps6
  go_wp2
  go_ret
  exact ⟨rfl, rfl⟩

theorem zzfill_nil (w : World) : Calls Try.prog 7 #[.slice none 0 0, .int .i64 0] w fun e w' => e = .returned (.tuple #[]) ∧ w' = w := by
  go_enter Try.func7, Try.ntmps7
  go_wp2
  refine wp_loop_rounds 1 ?_
  rw [rounds_succ]
  go_wp2
  go_end0
  go_wp2
  go_end0
  exact ⟨rfl, rfl⟩

end Go.Proofs.Qxb6630750a
