/-
  THE CONTRACT of NewSet (6).
-/
import Derived.Test.Qxb6630819aSet
import Derived.RegionTactic
import Derived.BigRegion
namespace Go.Proofs.Qxb6630819a
open Go.RowKit
open Go.ChangeMaps (setBlock)

set_option maxHeartbeats 1000000 in
theorem new_any (w : World) : Calls Try.prog 6 #[] w fun e w' => e = .returned (.pointer (some ⟨w.heap.size + 7, 0, none⟩)) ∧ Below w.heap.size w w' ∧ SetAt w' w.heap.size 4 := by
  have hmm := @run_makeMap Try.prog
  go_enter Try.func6, Try.ntmps6
  go_wp2_with fail
  obtain ⟨W, hW⟩ : ∃ W, W = allocs w (mapsBox w.heap.size) := ⟨_, rfl⟩
  have hWz : W.heap.size = w.heap.size + 8 := by rw [hW, allocs_size]; rfl
  clear hmm
  show Calls Try.prog 16 #[] (allocs w (mapsBox w.heap.size)) _
  rw [← hW]
  refine (roles_any W).mono ?_
  rintro e w1 ⟨rfl, b1, s1, hl, hr, hu⟩
  obtain ⟨b2, hS⟩ := SetAt.start hW b1 s1 hl hr hu
  clear hW b1 s1 hl hr hu
  have HS := hide hS
  clear hS
  go_wp2
  generalize hN : w.heap.size = N at *
  have HN := hide hN
  clear hN
  go_loopw [16] (fun i wr => ∃ k : Nat, k ≤ 4 ∧ i = .int .i64 k ∧ Below N w wr ∧ Hid (SetAt wr N k)) (fun i _ => 4 - (intOf i).toNat)
  case atStart => exact ⟨0, Nat.zero_le _, rfl, b2, HS⟩
  case round =>
    clear HS b2 hWz
    obtain ⟨k, hk, rfl, hb, HS⟩ := hrel
    by_cases hlt : k < 4
    · have hS := unhide HS
      have c0 := hS.cellList hlt
      have c1 := hS.cellRole hlt 0
      have c2 := hS.cellRole hlt 1
      have c3 := hS.cellBox 1 (by omega) (by omega)
      have c4 := hS.cellBox 2 (by omega) (by omega)
      simp at c1 c2 c3 c4
      have hz := hS.size
      have hz1 : N + 7 < wr.heap.size := by omega
      have hz2 : N + 8 + ro k < wr.heap.size := by have := ro_lt k; omega
      clear hz
      clear hS
      have hk4 : (k : Int) < 4 := by omega
      obtain ⟨W6, W7, r6, r7, d0, d1, d2, b7, S7⟩ := (unhide HS).step hlt
      have HS7 := hide S7
      clear S7
      go_wp2
      go_region
      go_wp2
      go_region
      go_wp2
      go_region
      go_wp2
      go_roundw
      case rel => exact ⟨k + 1, by omega, by go_num, hb.trans b7, HS7⟩
      case measure => simp [intOf]; omega
    · obtain rfl : k = 4 := by omega
      go_wp2
      go_ret
      have hN := unhide HN
      subst hN
      exact ⟨rfl, hb, unhide HS⟩

end Go.Proofs.Qxb6630819a
