/-
  THE CONTRACTS of the guards: zzBytes_FnFieldsGetCut (5), zzTooBig (6), zzBytes_FnFieldsGetInsert (11).
-/
import Derived.Test.Qxb6630781aHeader
namespace Go.Proofs.Qxb6630781a
open Go.RowKit

/-- Every name and value is at most 2^20 bytes long. -/
def Small (l : List Fld) (k : Nat) : Prop := ∀ (i : Nat) (h : i < l.length), i < k → l[i].nm.size ≤ 1048576 ∧ l[i].vl.size ≤ 1048576
/-- .. at most as long as a string can be. -/
def Sized (l : List Fld) : Prop := ∀ (i : Nat) (h : i < l.length), l[i].nm.size ≤ maxLen ∧ l[i].vl.size ≤ maxLen

theorem Small.zero (l : List Fld) : Small l 0 := fun _ _ h => absurd h (Nat.not_lt_zero _)
theorem Small.succ {l : List Fld} {k : Nat} (h : Small l k) (hk : k < l.length) (h1 : l[k].nm.size ≤ 1048576) (h2 : l[k].vl.size ≤ 1048576) : Small l (k + 1) := by
  intro i hi hik
  by_cases e : i = k
  · subst e; exact ⟨h1, h2⟩
  · exact h i hi (by omega)

set_option maxHeartbeats 400000 in
theorem bytesC_any (a : Option Addr) (n c : Nat) (p : Int) (l : List Fld) (s : ByteArray) (w : World) (hl : l.length = n) (hn : n ≤ maxLen) (hs : s.size ≤ maxLen) (hz : Sized l) (hr : Row w a l) :
    Calls Try.prog 5 #[.slice a n c, .int .i64 p, .string s] w fun e w' => (e = .returned (.bool false) ∧ w' = w) ∨ (e = .returned (.bool true) ∧ w' = w ∧ s.size ≤ 1048576 ∧ Small l n) := by
  unfold maxLen at hn hs
  have HR := hide hr
  have HZ := hide hz
  clear hr hz
  by_cases hn2 : n ≤ 1048576
  · go_enter Try.func5, Try.ntmps5
    go_wp2
    go_loop [7, 8] (fun zn i => ∃ k z : Nat, k ≤ n ∧ i = .int .i64 k ∧ zn = .int .i64 z ∧ z ≤ 1048576 ∧ Hid (Small l k)) (fun _ i => n - (intOf i).toNat)
    case atStart => exact ⟨0, n, Nat.zero_le _, rfl, rfl, hn2, Small.zero _⟩
    case round =>
      obtain ⟨k, z, hk, rfl, rfl, hz, HS⟩ := hrel
      by_cases hlt : k < n
      · rcases unhide HR with h | ⟨b, off, rfl, hB, hc⟩
        · subst h; simp at hl; omega
        · have hkl : k < l.length := by omega
          have hA := hc k hkl
          have hkn : (k : Int) < n := by omega
          have hm := (unhide HZ) k hkl
          have HS1 := hide (unhide HS).succ
          unfold maxLen at hm
          have HS2 := hide (HS1 hkl)
          clear hc HR HZ HS1
          generalize l[k] = f at hA hm HS2
          obtain ⟨nm, vl, nu, vu⟩ := f
          obtain ⟨c0, c1, c2, c3⟩ := hA
          simp only at c0 c1 c2 c3 hm HS2
          obtain ⟨hm1, hm2⟩ := hm
          go_wp2
          · go_ret; exact .inl ⟨rfl, rfl⟩
          · go_ret; exact .inl ⟨rfl, rfl⟩
          · go_ret; exact .inl ⟨rfl, rfl⟩
          · go_ret; exact .inl ⟨rfl, rfl⟩
          · go_round
            case rel => exact ⟨k + 1, z + nm.size + vl.size, by omega, by go_num, by go_num, by omega, (unhide HS2) (by omega) (by omega)⟩
            case measure => simp [intOf]; omega
      · have hkn : k = n := by omega
        subst hkn
        go_wp2
        · go_ret; exact .inl ⟨rfl, rfl⟩
        · go_ret; exact .inl ⟨rfl, rfl⟩
        · go_ret; exact .inr ⟨rfl, rfl, by omega, unhide HS⟩
  · go_enter Try.func5, Try.ntmps5
    go_wp2
    go_ret
    exact .inl ⟨rfl, rfl⟩

set_option maxHeartbeats 400000 in
theorem bytesI_any (a : Option Addr) (n c : Nat) (p : Int) (l : List Fld) (s s1 s2 : ByteArray) (w : World) (hl : l.length = n) (hn : n ≤ maxLen) (hs : s.size ≤ maxLen) (hs1 : s1.size ≤ maxLen) (hs2 : s2.size ≤ maxLen)
    (hz : Sized l) (hr : Row w a l) :
    Calls Try.prog 11 #[.slice a n c, .int .i64 p, .string s, .string s1, .string s2] w fun e w' => (e = .returned (.bool false) ∧ w' = w) ∨ (e = .returned (.bool true) ∧ w' = w ∧ s.size ≤ 1048576 ∧ s1.size ≤ 1048576 ∧ s2.size ≤ 1048576 ∧ Small l n) := by
  unfold maxLen at hn hs hs1 hs2
  have HR := hide hr
  have HZ := hide hz
  clear hr hz
  by_cases hn2 : n ≤ 1048576
  · go_enter Try.func11, Try.ntmps11
    go_wp2
    go_loop [11, 12] (fun zn i => ∃ k z : Nat, k ≤ n ∧ i = .int .i64 k ∧ zn = .int .i64 z ∧ z ≤ 1048576 ∧ Hid (Small l k)) (fun _ i => n - (intOf i).toNat)
    case atStart => exact ⟨0, n, Nat.zero_le _, rfl, rfl, hn2, Small.zero _⟩
    case round =>
      obtain ⟨k, z, hk, rfl, rfl, hz, HS⟩ := hrel
      by_cases hlt : k < n
      · rcases unhide HR with h | ⟨b, off, rfl, hB, hc⟩
        · subst h; simp at hl; omega
        · have hkl : k < l.length := by omega
          have hA := hc k hkl
          have hkn : (k : Int) < n := by omega
          have hm := (unhide HZ) k hkl
          have HS1 := hide (unhide HS).succ
          unfold maxLen at hm
          have HS2 := hide (HS1 hkl)
          clear hc HR HZ HS1
          generalize l[k] = f at hA hm HS2
          obtain ⟨nm, vl, nu, vu⟩ := f
          obtain ⟨c0, c1, c2, c3⟩ := hA
          simp only at c0 c1 c2 c3 hm HS2
          obtain ⟨hm1, hm2⟩ := hm
          go_wp2
          · go_ret; exact .inl ⟨rfl, rfl⟩
          · go_ret; exact .inl ⟨rfl, rfl⟩
          · go_ret; exact .inl ⟨rfl, rfl⟩
          · go_ret; exact .inl ⟨rfl, rfl⟩
          · go_round
            case rel => exact ⟨k + 1, z + nm.size + vl.size, by omega, by go_num, by go_num, by omega, (unhide HS2) (by omega) (by omega)⟩
            case measure => simp [intOf]; omega
      · have hkn : k = n := by omega
        subst hkn
        go_wp2
        · go_ret; exact .inl ⟨rfl, rfl⟩
        · go_ret; exact .inl ⟨rfl, rfl⟩
        · go_ret; exact .inl ⟨rfl, rfl⟩
        · go_ret; exact .inl ⟨rfl, rfl⟩
        · go_ret; exact .inl ⟨rfl, rfl⟩
        · go_ret; exact .inl ⟨rfl, rfl⟩
        · go_ret; exact .inr ⟨rfl, rfl, by omega, by omega, by omega, unhide HS⟩
  · go_enter Try.func11, Try.ntmps11
    go_wp2
    go_ret
    exact .inl ⟨rfl, rfl⟩

set_option maxHeartbeats 400000 in
theorem tooBig_any (a : Option Addr) (n c : Nat) (l : List Fld) (s s1 s2 : ByteArray) (w : World) (hl : l.length = n) (hn : n ≤ maxLen) (hs : s.size ≤ 1048576) (hs1 : s1.size ≤ 1048576) (hs2 : s2.size ≤ 1048576)
    (hz : Small l n) (hr : Row w a l) :
    Calls Try.prog 6 #[.slice a n c, .string s, .string s1, .string s2] w fun e w' => (e = .returned (.bool true) ∧ w' = w) ∨ (e = .returned (.bool false) ∧ w' = w ∧ n ≤ 65536) := by
  unfold maxLen at hn
  have HR := hide hr
  have HZ := hide hz
  clear hr hz
  by_cases hn2 : n ≤ 65536
  · by_cases ht : s.size + s1.size + s2.size ≤ 1048576
    · go_enter Try.func6, Try.ntmps6
      go_wp2
      go_loop [9, 10] (fun zn i => ∃ k z : Nat, k ≤ n ∧ i = .int .i64 k ∧ zn = .int .i64 z ∧ z ≤ 1048576) (fun _ i => n - (intOf i).toNat)
      case atStart => exact ⟨0, s.size + s1.size + s2.size, Nat.zero_le _, rfl, by go_num, by omega⟩
      case round =>
        obtain ⟨k, z, hk, rfl, rfl, hz⟩ := hrel
        by_cases hlt : k < n
        · rcases unhide HR with h | ⟨b, off, rfl, hB, hc⟩
          · subst h; simp at hl; omega
          · have hkl : k < l.length := by omega
            have hA := hc k hkl
            have hkn : (k : Int) < n := by omega
            have hm := (unhide HZ) k hkl hlt
            clear hc HR HZ
            generalize l[k] = f at hA hm
            obtain ⟨nm, vl, nu, vu⟩ := f
            obtain ⟨c0, c1, c2, c3⟩ := hA
            simp only at c0 c1 c2 c3 hm
            obtain ⟨hm1, hm2⟩ := hm
            go_wp2
            · go_ret; exact .inl ⟨rfl, rfl⟩
            · go_ret; exact .inl ⟨rfl, rfl⟩
            · go_round
              case rel => exact ⟨k + 1, z + (8 + nm.size) + vl.size, by omega, by go_num, by go_num, by omega⟩
              case measure => simp [intOf]; omega
        · have hkn : k = n := by omega
          subst hkn
          go_wp2
          go_ret
          first | exact .inr ⟨rfl, rfl, hn2⟩ | exact .inr ⟨rfl, rfl⟩ | exact ⟨rfl, rfl⟩
    · go_enter Try.func6, Try.ntmps6
      go_wp2
      all_goals (go_ret; exact .inl ⟨rfl, rfl⟩)
  · go_enter Try.func6, Try.ntmps6
    go_wp2
    go_ret
    exact .inl ⟨rfl, rfl⟩

end Go.Proofs.Qxb6630781a
