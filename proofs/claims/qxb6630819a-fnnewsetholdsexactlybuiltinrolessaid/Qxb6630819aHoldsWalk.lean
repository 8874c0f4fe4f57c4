/-
  THE WALK of FnNewSetHoldsExactlyBuiltinRoles (3).
-/
import Derived.Test.Qxb6630819aName
import Derived.Deep.QuietTactic
import Derived.BigQuiet
namespace Go.Proofs.Qxb6630819a
open Go.RowKit
open Go.ChangeMaps (setBlock)

set_option maxHeartbeats 1000000 in
set_option maxRecDepth 100000 in
theorem holds_main (ns s : ByteArray) (w : World) (h1 : ns.size ≤ 65536) (h2 : s.size ≤ 65536) : Calls Try.prog 3 #[.string ns, .string s] w fun e w' => e = .returned (.bool true) ∧ Below w.heap.size w w' := by
  have q25 : ∀ (w : World), (binOp .neq 25 (.slice none 0 0) (.slice none 0 0)).run Try.prog w = .ok (.bool false) w := fun w => run_neq_slice_nil_any w _ _ none 0 0 0 0 Try.underlying25
  have q26 : ∀ (w : World) (r : Option Nat), (binOp .eql 26 (.map r) (.map none)).run Try.prog w = .ok (.bool r.isNone) w := fun w r => run_eql_map_nil w _ _ _ r Try.underlying26
  have q27 : ∀ (w : World) (r : Option Nat), (binOp .eql 27 (.map r) (.map none)).run Try.prog w = .ok (.bool r.isNone) w := fun w r => run_eql_map_nil w _ _ _ r Try.underlying27
  have q28 : ∀ (w : World) (r : Option Nat), (binOp .eql 28 (.map r) (.map none)).run Try.prog w = .ok (.bool r.isNone) w := fun w r => run_eql_map_nil w _ _ _ r Try.underlying28
  have q29 : ∀ (w : World) (r : Option Nat), (binOp .eql 29 (.map r) (.map none)).run Try.prog w = .ok (.bool r.isNone) w := fun w r => run_eql_map_nil w _ _ _ r Try.underlying29
  have q30 : ∀ (w : World) (r : Option Nat), (binOp .eql 30 (.map r) (.map none)).run Try.prog w = .ok (.bool r.isNone) w := fun w r => run_eql_map_nil w _ _ _ r Try.underlying30
  have q31 : ∀ (w : World) (r : Option Nat), (binOp .eql 31 (.map r) (.map none)).run Try.prog w = .ok (.bool r.isNone) w := fun w r => run_eql_map_nil w _ _ _ r Try.underlying31
  have q32 : ∀ (w : World) (r : Option Nat), (binOp .eql 32 (.map r) (.map none)).run Try.prog w = .ok (.bool r.isNone) w := fun w r => run_eql_map_nil w _ _ _ r Try.underlying32
  go_enter Try.func3, Try.ntmps3
  go_wp2_with (go_at_call 5; go_in)
  refine (new_any w).mono ?_
  rintro e w1 ⟨rfl, b1, S1⟩
  have c0 : w1.cell? ⟨w.heap.size + 7, 0, none⟩ = some (.slice none 0 0) := by rw [cell_of_row w1 _ 0 _ _ _ S1.box]; rfl
  have c1 : w1.cell? ⟨w.heap.size + 7, 1, none⟩ = some (.map (some w.heap.size)) := S1.cellBox 1 (by omega) (by omega)
  have c2 : w1.cell? ⟨w.heap.size + 7, 2, none⟩ = some (.map (some (w.heap.size + 1))) := S1.cellBox 2 (by omega) (by omega)
  have c3 : w1.cell? ⟨w.heap.size + 7, 3, none⟩ = some (.map (some (w.heap.size + 2))) := S1.cellBox 3 (by omega) (by omega)
  have c4 : w1.cell? ⟨w.heap.size + 7, 4, none⟩ = some (.map (some (w.heap.size + 3))) := S1.cellBox 4 (by omega) (by omega)
  have c5 : w1.cell? ⟨w.heap.size + 7, 5, none⟩ = some (.map (some (w.heap.size + 4))) := S1.cellBox 5 (by omega) (by omega)
  have c6 : w1.cell? ⟨w.heap.size + 7, 6, none⟩ = some (.map (some (w.heap.size + 5))) := S1.cellBox 6 (by omega) (by omega)
  have c7 : w1.cell? ⟨w.heap.size + 7, 7, none⟩ = some (.map (some (w.heap.size + 6))) := S1.cellBox 7 (by omega) (by omega)
  have l0 : ∀ ty, (Builtin.len_ #[26] ty #[.map (some w.heap.size)]).run Try.prog w1 = .ok (.int .i64 4) w1 := fun ty => run_size ty Try.underlying26 S1.roles
  have l1 : ∀ ty, (Builtin.len_ #[27] ty #[.map (some (w.heap.size + 1))]).run Try.prog w1 = .ok (.int .i64 4) w1 := fun ty => run_size ty Try.underlying27 S1.builtin
  have l2 : ∀ ty, (Builtin.len_ #[28] ty #[.map (some (w.heap.size + 2))]).run Try.prog w1 = .ok (.int .i64 0) w1 := fun ty => run_size ty Try.underlying28 (S1.rest 2 (by omega) (by omega))
  have l3 : ∀ ty, (Builtin.len_ #[29] ty #[.map (some (w.heap.size + 3))]).run Try.prog w1 = .ok (.int .i64 0) w1 := fun ty => run_size ty Try.underlying29 (S1.rest 3 (by omega) (by omega))
  have l4 : ∀ ty, (Builtin.len_ #[30] ty #[.map (some (w.heap.size + 4))]).run Try.prog w1 = .ok (.int .i64 0) w1 := fun ty => run_size ty Try.underlying30 (S1.rest 4 (by omega) (by omega))
  have l5 : ∀ ty, (Builtin.len_ #[31] ty #[.map (some (w.heap.size + 5))]).run Try.prog w1 = .ok (.int .i64 0) w1 := fun ty => run_size ty Try.underlying31 (S1.rest 5 (by omega) (by omega))
  have l6 : ∀ ty, (Builtin.len_ #[32] ty #[.map (some (w.heap.size + 6))]).run Try.prog w1 = .ok (.int .i64 0) w1 := fun ty => run_size ty Try.underlying32 (S1.rest 6 (by omega) (by omega))
  have HS := hide S1
  clear S1
  go_wp2_with fail
  refine (get7 _ _ _ c1).mono ?_
  rintro e w' ⟨rfl, hw⟩
  subst hw
  go_wp2_with fail
  refine (get8 _ _ _ c2).mono ?_
  rintro e w1 ⟨rfl, hw⟩
  subst hw
  go_wp2_with fail
  refine (get9 _ _ _ c3).mono ?_
  rintro e w' ⟨rfl, hw⟩
  subst hw
  go_wp2_with fail
  refine (get10 _ _ _ c4).mono ?_
  rintro e w1 ⟨rfl, hw⟩
  subst hw
  go_wp2_with fail
  refine (get11 _ _ _ c5).mono ?_
  rintro e w' ⟨rfl, hw⟩
  subst hw
  go_wp2_with fail
  refine (get12 _ _ _ c6).mono ?_
  rintro e w1 ⟨rfl, hw⟩
  subst hw
  go_wp2_with fail
  refine (get13 _ _ _ c7).mono ?_
  rintro e w' ⟨rfl, hw⟩
  subst hw
  clear q25 q26 q27 c0 c1 c2 c3 c4 c5 c6 c7 l0 l1
  cases hM : ns.toList == [109, 97, 115, 116, 101, 114]
  · have HA : Absent ns s := absent_of (by rw [hM]; rfl)
    go_wp2_with fail
    refine (key_any _ _ _).mono ?_
    rintro e w4 ⟨rfl, b4⟩
    have b5 := b1.trans (b4.mono b1.size)
    have hq := ((unhide HS).below b4 (unhide HS).size).alloc (.cells #[.string ns, .string s] 44)
    have r1 := hq.noR HA
    have r2 := hq.noB HA
    have b6 := b5.alloc b5.size (.cells #[.string ns, .string s] 44)
    clear hq b4 b5 b1 HS HA
    go_wp2
    go_ret
    exact ⟨rfl, b6⟩
  · have hM' : ns.toList = [109, 97, 115, 116, 101, 114] := by simpa using hM
    go_wp2_with fail
    refine (isB_any s _).mono ?_
    rintro e w1 ⟨rfl, hw⟩
    subst hw
    cases hB : isB s
    · have HA : Absent ns s := absent_of (by rw [hB]; simp)
      go_wp2_with fail
      refine (key_any _ _ _).mono ?_
      rintro e w4 ⟨rfl, b4⟩
      have b5 := b1.trans (b4.mono b1.size)
      have hq := ((unhide HS).below b4 (unhide HS).size).alloc (.cells #[.string ns, .string s] 44)
      have r1 := hq.noR HA
      have r2 := hq.noB HA
      have b6 := b5.alloc b5.size (.cells #[.string ns, .string s] 44)
      clear hq b4 b5 b1 HS HA
      go_wp2
      go_ret
      exact ⟨rfl, b6⟩
    · obtain ⟨k, hk, rfl⟩ := isB_num hB
      obtain rfl : ns = nmM := toList_inj (hM'.trans nmM_list.symm)
      go_wp2_with fail
      refine (key_any _ _ _).mono ?_
      rintro e w4 ⟨rfl, b4⟩
      have b5 := b1.trans (b4.mono b1.size)
      have hS4 := (unhide HS).below b4 (unhide HS).size
      have hq := hS4.alloc (.cells #[.string nmM, .string (nm k)] 44)
      have r1 := hq.yesR hk
      have r2 := hq.lookB hk
      have f0 := hS4.cellRole hk 0
      have f1 := hS4.cellRole hk 1
      have f2 := hS4.cellRole hk 2
      have f3 := hS4.cellRole hk 3
      simp at f0 f1 f2 f3
      have zz := hS4.size
      have hro := ro_lt k
      have y1 : w.heap.size + 8 + ro k < w4.heap.size := by omega
      have hrl := rl_pos k
      have hr1 : (0 : Int) < (rl k : Int) := by omega
      have b6 := b5.alloc b5.size (.cells #[.string nmM, .string (nm k)] 44)
      clear hq hS4 b4 b5 b1 HS zz hro hM hM'
      go_wp2
      go_ret
      exact ⟨rfl, b6⟩

set_option maxHeartbeats 400000 in
set_option maxRecDepth 100000 in
/-- The guards. -/
theorem holds_out (ns s : ByteArray) (w : World) (hn : ns.size ≤ maxLen) (hs : s.size ≤ maxLen) (h : 65536 < ns.size ∨ 65536 < s.size) : Calls Try.prog 3 #[.string ns, .string s] w fun e w' => e = .returned (.bool true) ∧ Below w.heap.size w w' := by
  unfold maxLen at hn hs
  by_cases h1 : 1048576 < ns.size
  · clear h
    go_enter Try.func3, Try.ntmps3
    go_wp2
    go_ret
    exact ⟨rfl, Below.refl _ _⟩
  · by_cases h2 : 1048576 < s.size
    · clear h
      go_enter Try.func3, Try.ntmps3
      go_wp2
      go_ret
      exact ⟨rfl, Below.refl _ _⟩
    · by_cases h3 : 1048576 < ns.size + s.size
      · clear h
        go_enter Try.func3, Try.ntmps3
        go_wp2
        go_ret
        exact ⟨rfl, Below.refl _ _⟩
      · by_cases h4 : 65536 < ns.size
        · clear h
          go_enter Try.func3, Try.ntmps3
          go_wp2
          go_ret
          exact ⟨rfl, Below.refl _ _⟩
        · have h5 : 65536 < s.size := by omega
          clear h
          go_enter Try.func3, Try.ntmps3
          go_wp2
          go_ret
          exact ⟨rfl, Below.refl _ _⟩

/-- Every input. -/
theorem holds_any (ns s : ByteArray) (w : World) (hn : ns.size ≤ maxLen) (hs : s.size ≤ maxLen) : Calls Try.prog 3 #[.string ns, .string s] w fun e w' => e = .returned (.bool true) ∧ Below w.heap.size w w' := by
  by_cases h : 65536 < ns.size ∨ 65536 < s.size
  · exact holds_out ns s w hn hs h
  · exact holds_main ns s w (by omega) (by omega)

end Go.Proofs.Qxb6630819a
