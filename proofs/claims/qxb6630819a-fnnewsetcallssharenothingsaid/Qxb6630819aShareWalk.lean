/-
  THE WALK of FnNewSetCallsShareNothing (4).
-/
import Derived.Test.Qxb6630819aPtr
import Derived.Deep.QuietTactic
import Derived.BigQuiet
namespace Go.Proofs.Qxb6630819a
open Go.RowKit
open Go.ChangeMaps (setBlock)

set_option maxHeartbeats 1000000 in
set_option maxRecDepth 100000 in
theorem share_main (w : World) : Calls Try.prog 4 #[] w fun e w' => e = .returned (.bool true) ∧ Below w.heap.size w w' := by
  have q26 : ∀ (w : World) (r : Option Nat), (binOp .eql 26 (.map r) (.map none)).run Try.prog w = .ok (.bool r.isNone) w := fun w r => run_eql_map_nil w _ _ _ r Try.underlying26
  have q27 : ∀ (w : World) (r : Option Nat), (binOp .eql 27 (.map r) (.map none)).run Try.prog w = .ok (.bool r.isNone) w := fun w r => run_eql_map_nil w _ _ _ r Try.underlying27
  go_enter Try.func4, Try.ntmps4
  go_wp2_with fail
  refine (new_any w).mono ?_
  rintro e w1 ⟨rfl, b1, S1⟩
  have HS1 := hide S1
  clear S1
  go_wp2_with fail
  refine (new_any w1).mono ?_
  rintro e w2 ⟨rfl, b2, S2⟩
  have hz1 := (unhide HS1).size
  have T1 := (unhide HS1).below b2 hz1
  have b3 := b1.trans (b2.mono b1.size)
  have hp : (binOp .eql 23 (.pointer (some ⟨w.heap.size + 7, 0, none⟩)) (.pointer (some ⟨w1.heap.size + 7, 0, none⟩))).run Try.prog w2 = .ok (.bool false) w2 :=
    run_eql_ptr Try.underlying23 size34 (by decide) (by intro h; injection h; omega) T1.box S2.box
  have c1 : w2.cell? ⟨w.heap.size + 7, 1, none⟩ = some (.map (some w.heap.size)) := T1.cellBox 1 (by omega) (by omega)
  have c2 : w2.cell? ⟨w.heap.size + 7, 2, none⟩ = some (.map (some (w.heap.size + 1))) := T1.cellBox 2 (by omega) (by omega)
  have c3 : w2.cell? ⟨w1.heap.size + 7, 1, none⟩ = some (.map (some w1.heap.size)) := S2.cellBox 1 (by omega) (by omega)
  have c4 : w2.cell? ⟨w1.heap.size + 7, 2, none⟩ = some (.map (some (w1.heap.size + 1))) := S2.cellBox 2 (by omega) (by omega)
  have HS := hide (And.intro T1 S2)
  clear T1 S2 HS1 b1 b2
  go_wp2_with fail
  refine (get7 _ _ _ c1).mono ?_
  rintro e w' ⟨rfl, hw⟩
  subst hw
  go_wp2_with fail
  refine (get7 _ _ _ c3).mono ?_
  rintro e w2 ⟨rfl, hw⟩
  subst hw
  go_wp2_with fail
  refine (get8 _ _ _ c2).mono ?_
  rintro e w' ⟨rfl, hw⟩
  subst hw
  go_wp2_with fail
  refine (get8 _ _ _ c4).mono ?_
  rintro e w2 ⟨rfl, hw⟩
  subst hw
  go_wp2_with fail
  clear c1 c2 c3 c4 hp q26 q27
  have hT : ∃ W, W = w2.alloc (.cells #[.string ⟨#[118, 105, 101, 119]⟩, .string ⟨#[101, 100, 105, 116]⟩, .string ⟨#[97, 100, 109, 105, 110]⟩, .string ⟨#[99, 108, 117, 115, 116, 101, 114, 45, 97, 100, 109, 105, 110]⟩] 51) := ⟨_, rfl⟩
  obtain ⟨W, hW⟩ := hT
  have hWn : ∀ k, k < 4 → W.cell? ⟨w2.heap.size, k, none⟩ = some (.string (nm k)) := fun k hk => by rw [hW]; exact nameRow w2 hk
  have hWz : W.heap.size = w2.heap.size + 1 := by rw [hW]; simp
  have hWb : Below w.heap.size w W := by rw [hW]; exact b3.alloc b3.size _
  have hW1 : SetAt W w.heap.size 4 := by rw [hW]; exact (unhide HS).1.alloc _
  have hW2 : SetAt W w1.heap.size 4 := by rw [hW]; exact (unhide HS).2.alloc _
  have hz3 := hW2.size
  rw [← hW]
  have HW := hide (And.intro hWn (And.intro hWb (And.intro hW1 hW2)))
  clear hW hWn hWb hW1 hW2 HS b3
  generalize hN1 : w.heap.size = N1 at *
  generalize hN2 : w1.heap.size = N2 at *
  generalize hA : w2.heap.size = A at *
  have HN := hide hN1
  clear hN1 hN2 hA
  go_loopw [8] (fun i wr => ∃ k : Nat, k ≤ 4 ∧ i = .int .i64 k ∧ Below W.heap.size W wr) (fun i _ => 4 - (intOf i).toNat)
  case atStart => exact ⟨0, Nat.zero_le _, rfl, Below.refl _ _⟩
  case round =>
    obtain ⟨k, hk, rfl, hb⟩ := hrel
    by_cases hlt : k < 4
    · have cn : wr.cell? ⟨A, k, none⟩ = some (.string (nm k)) := (hb.cell (p := ⟨A, k, none⟩) (by show A < _; omega)).trans ((unhide HW).1 k hlt)
      have hk4 : (k : Int) < 4 := by omega
      go_wp2_with fail
      refine (key_any _ _ _).mono ?_
      rintro e w4 ⟨rfl, b4⟩
      have b5 := hb.trans (b4.mono hb.size)
      have hq1 := ((unhide HW).2.2.1.below b5 (by omega)).alloc (.cells #[.string ⟨#[109, 97, 115, 116, 101, 114]⟩, .string (nm k)] 44)
      have hq2 := ((unhide HW).2.2.2.below b5 (by omega)).alloc (.cells #[.string ⟨#[109, 97, 115, 116, 101, 114]⟩, .string (nm k)] 44)
      obtain ⟨r1, r2, r3, r4, r5, r6⟩ := two_sets hq1 hq2 (by omega) hlt
      have f1 := ((unhide HW).2.2.1.below b5 (by omega)).cellRole hlt 2
      have f2 := ((unhide HW).2.2.2.below b5 (by omega)).cellRole hlt 2
      simp at f1 f2
      have zz1 := ((unhide HW).2.2.1.below b5 (by omega)).size
      have zz2 := ((unhide HW).2.2.2.below b5 (by omega)).size
      have hro := ro_lt k
      have y1 : N1 + 8 + ro k < w4.heap.size := by omega
      have y2 : N2 + 8 + ro k < w4.heap.size := by omega
      clear zz1 zz2 hro
      have hrl := rl_pos k
      have hr0 : ((rl k : Int) == 0) = false := by simp; omega
      have hr1 : (0 : Int) < (rl k : Int) := by omega
      have b6 := b5.alloc b5.size (.cells #[.string ⟨#[109, 97, 115, 116, 101, 114]⟩, .string (nm k)] 44)
      clear hq1 hq2 b4 b5 hb cn
      go_wp2
      go_quiet (fail)
      go_wp2
      go_quiet (fail)
      go_wp2
      go_roundw
      case rel => exact ⟨k + 1, by omega, by go_num, below_drewN b6 _⟩
      case measure => simp [intOf]; omega
    · go_wp2_with fail
      refine (key_any _ _ _).mono ?_
      rintro e w4 ⟨rfl, b4⟩
      have b5 := hb.trans (b4.mono hb.size)
      have hq1 := ((unhide HW).2.2.1.below b5 (by omega)).alloc (.cells #[.string ⟨#[109, 97, 115, 116, 101, 114]⟩, .string ⟨#[118, 105, 101, 119]⟩] 44)
      have hq2 := ((unhide HW).2.2.2.below b5 (by omega)).alloc (.cells #[.string ⟨#[109, 97, 115, 116, 101, 114]⟩, .string ⟨#[118, 105, 101, 119]⟩] 44)
      have zz := ((unhide HW).2.2.2.below b5 (by omega)).size
      have b6 := b5.alloc b5.size (.cells #[.string ⟨#[109, 97, 115, 116, 101, 114]⟩, .string ⟨#[118, 105, 101, 119]⟩] 44)
      obtain ⟨D1, D2, e1, e2, k1, k2, l1, l2, l3, l4, g1, g2, g3, b7⟩ := drop_view (c := w4.heap.size) hq1 hq2 (by omega) (by omega)
      have k10 := k1 0
      have k11 := k1 1
      have k20 := k2 0
      have k21 := k2 1
      simp at k10 k11 k20 k21
      have b8 := (unhide HW).2.1
      have b9 : Below N1 w D2 := (b8.trans (b6.mono (by omega))).trans b7
      clear hq1 hq2 b4 b5 hb b6 b7 b8 k1 k2
      go_wp2
      go_ret
      have hN := unhide HN
      subst hN
      exact ⟨rfl, b9⟩

end Go.Proofs.Qxb6630819a
