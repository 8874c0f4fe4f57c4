/-
  isBuiltinName (14), and look-ups of whatever key in a set's tables.
-/
import Derived.Test.Qxb6630819aPtr
namespace Go.Proofs.Qxb6630819a
open Go.RowKit
open Go.ChangeMaps (setBlock)

/-- One of the four names. -/
def isB (s : ByteArray) : Bool := s.toList == [118, 105, 101, 119] || (s.toList == [101, 100, 105, 116] || (s.toList == [97, 100, 109, 105, 110] || s.toList == [99, 108, 117, 115, 116, 101, 114, 45, 97, 100, 109, 105, 110]))

theorem isB_any (s : ByteArray) (w : World) : Calls Try.prog 14 #[.string s] w fun e w' => e = .returned (.bool (isB s)) ∧ w' = w := by
  have HB := hide (show isB s = (s.toList == [118, 105, 101, 119] || (s.toList == [101, 100, 105, 116] || (s.toList == [97, 100, 109, 105, 110] || s.toList == [99, 108, 117, 115, 116, 101, 114, 45, 97, 100, 109, 105, 110]))) from rfl)
  cases h0 : s.toList == [118, 105, 101, 119]
  · cases h1 : s.toList == [101, 100, 105, 116]
    · cases h2 : s.toList == [97, 100, 109, 105, 110]
      · cases h3 : s.toList == [99, 108, 117, 115, 116, 101, 114, 45, 97, 100, 109, 105, 110]
        all_goals
          go_enter Try.func14, Try.ntmps14
          go_wp2
          go_ret
          exact ⟨by rw [unhide HB, h0, h1, h2, h3]; rfl, rfl⟩
      · go_enter Try.func14, Try.ntmps14
        go_wp2
        go_ret
        exact ⟨by rw [unhide HB, h0, h1, h2]; rfl, rfl⟩
    · go_enter Try.func14, Try.ntmps14
      go_wp2
      go_ret
      exact ⟨by rw [unhide HB, h0, h1]; rfl, rfl⟩
  · go_enter Try.func14, Try.ntmps14
    go_wp2
    go_ret
    exact ⟨by rw [unhide HB, h0]; rfl, rfl⟩

theorem nm_list0 : (nm 0).toList = [118, 105, 101, 119] := by rw [ByteArray.toList_eq]; rfl
theorem nm_list1 : (nm 1).toList = [101, 100, 105, 116] := by rw [ByteArray.toList_eq]; rfl
theorem nm_list2 : (nm 2).toList = [97, 100, 109, 105, 110] := by rw [ByteArray.toList_eq]; rfl
theorem nm_list3 : (nm 3).toList = [99, 108, 117, 115, 116, 101, 114, 45, 97, 100, 109, 105, 110] := by rw [ByteArray.toList_eq]; rfl
theorem nmM_list : nmM.toList = [109, 97, 115, 116, 101, 114] := by rw [ByteArray.toList_eq]; rfl

theorem toList_inj {a b : ByteArray} (h : a.toList = b.toList) : a = b := by
  rw [ByteArray.toList_eq, ByteArray.toList_eq] at h
  exact ByteArray.ext (Array.ext' h)
theorem eq_of_beqB {a b : ByteArray} (h : (a == b) = true) : a = b := by
  rw [beq_toListBytes] at h
  exact toList_inj (by simpa using h)

/-- One of the four names, by its number. -/
theorem isB_num {s : ByteArray} (h : isB s = true) : ∃ k, k < 4 ∧ s = nm k := by
  simp only [isB, Bool.or_eq_true, beq_iff_eq] at h
  rcases h with h | h | h | h
  · exact ⟨0, by omega, toList_inj (h.trans nm_list0.symm)⟩
  · exact ⟨1, by omega, toList_inj (h.trans nm_list1.symm)⟩
  · exact ⟨2, by omega, toList_inj (h.trans nm_list2.symm)⟩
  · exact ⟨3, by omega, toList_inj (h.trans nm_list3.symm)⟩
theorem isB_nm (k : Nat) (h : k < 4) : isB (nm k) = true := by
  match k, h with
  | 0, _ => unfold isB; rw [nm_list0]; rfl
  | 1, _ => unfold isB; rw [nm_list1]; rfl
  | 2, _ => unfold isB; rw [nm_list2]; rfl
  | 3, _ => unfold isB; rw [nm_list3]; rfl

/-- No such key. -/
def Absent (ns s : ByteArray) : Prop := ∀ k, k < 4 → (ns == nmM && s == nm k) = false
theorem absent_of {ns s : ByteArray} (h : (ns.toList == [109, 97, 115, 116, 101, 114] && isB s) = false) : Absent ns s := by
  intro k hk
  cases h1 : ns == nmM
  · rfl
  · cases h2 : s == nm k
    · rfl
    · have e1 : ns = nmM := eq_of_beqB h1
      have e2 : s = nm k := eq_of_beqB h2
      subst e1 e2
      rw [isB_nm k hk, nmM_list] at h
      simp at h
theorem fnd_absent (N : Nat) {ns s : ByteArray} (h : Absent ns s) : fnd ns s (ents N 4) 0 = none := by
  have e : ∀ j, isK ns s (entR N j).key = (ns == nmM && s == nm j) := fun _ => rfl
  show fnd ns s [entR N 0, entR N 1, entR N 2, entR N 3] 0 = none
  simp only [fnd, e, h 0 (by omega), h 1 (by omega), h 2 (by omega), h 3 (by omega)]
  rfl
theorem fnd_absentB {ns s : ByteArray} (h : Absent ns s) : fnd ns s (entsB 4) 0 = none := by
  have e : ∀ j, isK ns s (entB j).key = (ns == nmM && s == nm j) := fun _ => rfl
  show fnd ns s [entB 0, entB 1, entB 2, entB 3] 0 = none
  simp only [fnd, e, h 0 (by omega), h 1 (by omega), h 2 (by omega), h 3 (by omega)]
  rfl

theorem SetAt.noR {w : World} {N : Nat} (h : SetAt w N 4) {ns s : ByteArray} (ha : Absent ns s) :
    (Instr.lookup 26 (.map (some N)) (.agg #[.string ns, .string s]) true).run Try.prog w = .ok (.tuple #[.pointer none, .bool false]) w := by
  rw [run_look Try.underlying26 zero46 h.roles (keys_ents N 4) ns s true, fnd_absent N ha]
  rfl
theorem SetAt.noB {w : World} {N : Nat} (h : SetAt w N 4) {ns s : ByteArray} (ha : Absent ns s) :
    (Instr.lookup 27 (.map (some (N + 1))) (.agg #[.string ns, .string s]) false).run Try.prog w = .ok (.bool false) w := by
  rw [run_look Try.underlying27 zero4 h.builtin (keys_entsB 4) ns s false, fnd_absentB ha]
  rfl
theorem SetAt.yesR {w : World} {N : Nat} (h : SetAt w N 4) {k : Nat} (hk : k < 4) :
    (Instr.lookup 26 (.map (some N)) (.agg #[.string nmM, .string (nm k)]) true).run Try.prog w = .ok (.tuple #[.pointer (some ⟨N + 8 + ro k, 0, none⟩), .bool true]) w := by
  rw [run_look Try.underlying26 zero46 h.roles (keys_ents N 4) nmM (nm k) true, fnd_ents N k hk]
  rfl

end Go.Proofs.Qxb6630819a
