/-
  THE WALK of FnFieldsGetCut (3).
-/
import Derived.Test.Qxb6630781aPlain
import Derived.Test.Qxb6630781aGet
import Derived.Test.Qxb6630781aFields
import Derived.Test.Qxb6630781aAny
import Derived.Test.Qxb6630781aSizes
namespace Go.Proofs.Qxb6630781a
open Go.RowKit

set_option maxHeartbeats 1000000 in
theorem cut_row (x : Addr) (n c k : Nat) (l : List Fld) (s : ByteArray) (w : World) (hl : l.length = n) (hn : n ≤ 65536) (hk : k ≤ n) (hs : s.size ≤ 1048576) (hz : Sized l) (hr : Row w (some x) l) :
    Calls Try.prog 3 #[.slice (some x) n c, .int .i64 k, .string s] w fun e w' => e = .returned (.bool true) ∧ Below w.heap.size w w' := by
  have HR := hide hr
  have HZ := hide hz
  clear hr hz
  have d1 : decide ((k : Int) < 0) = false := decide_eq_false (by omega)
  have d2 : decide ((n : Int) < (k : Int)) = false := decide_eq_false (by omega)
  go_enter Try.func3, Try.ntmps3
  go_wp2_with fail
  refine (bytesC_any (some x) n c k l s _ hl (by unfold maxLen; omega) (by unfold maxLen; omega) (unhide HZ) (unhide HR)).mono ?_
  rintro e w' (⟨rfl, rfl⟩ | ⟨rfl, rfl, _, hsm⟩)
  · go_wp2
    go_ret
    exact ⟨rfl, Below.refl _ _⟩
  have HS := hide hsm
  clear hsm HZ
  go_wp2_with fail
  refine (tooBig_any (some x) n c l s ⟨#[]⟩ ⟨#[]⟩ _ hl (by unfold maxLen; omega) hs (Nat.zero_le _) (Nat.zero_le _) (unhide HS) (unhide HR)).mono ?_
  rintro e w' (⟨rfl, rfl⟩ | ⟨rfl, rfl, _⟩)
  · go_wp2
    go_ret
    exact ⟨rfl, Below.refl _ _⟩
  clear HS
  go_wp2_with fail
  refine (fields_row x n c l _ hl hn (unhide HR)).mono ?_
  rintro e w1 ⟨rfl, b1, R1⟩
  have HR1 := hide R1
  have HF1 := hide ((unhide HR).below b1)
  clear R1 HR
  go_wp2_with fail
  refine (get_any _ n n l s _ hl (by omega) (unhide HR1)).mono ?_
  rintro e w2 ⟨rfl, b2⟩
  have b3 := b1.trans (b2.mono b1.size)
  have HR2 := hide ((unhide HR1).below b2)
  have HF2 := hide ((unhide HF1).below b2)
  clear HR1 HF1 b1 b2
  go_wp2_with fail
  refine (get_any _ k n (l.take k) s _ (by simp; omega) (by omega) ((unhide HR2).take k)).mono ?_
  rintro e w3 ⟨rfl, b4⟩
  have b5 := b3.trans (b4.mono b3.size)
  have HR3 := hide ((unhide HR2).below b4)
  have HF3 := hide ((unhide HF2).below b4)
  clear HR2 HF2 b3 b4
  by_cases hkn : k = n
  · subst hkn
    go_wp2_with fail
    refine (get_any _ 0 0 [] s _ rfl (by omega) (.inl rfl)).mono ?_
    rintro e w4 ⟨rfl, b6⟩
    have b7 := b5.trans (b6.mono b5.size)
    have HF4 := hide ((unhide HF3).below b6)
    clear HR3 HF3 b5 b6
    go_wp2_with fail
    refine (any_any (some x) k c 0 k l s _ hl hn (Nat.zero_le _) (Nat.le_refl _) (unhide HF4)).mono ?_
    rintro e w5 ⟨rfl, b8⟩
    have b9 := b7.trans (b8.mono b7.size)
    have HF5 := hide ((unhide HF4).below b8)
    clear HF4 b7 b8
    rw [List.drop_zero, List.take_of_length_le (by omega)]
    cases hq : anyL l s
    · rw [getL_none hq, show getL [] s = (ByteArray.empty, false) from rfl]
      have HQ := hide hq
      clear hq
      go_wp2_with fail
      refine (any_any (some x) k c k k l s _ hl hn (Nat.le_refl _) (Nat.le_refl _) (unhide HF5)).mono ?_
      rintro e w6 ⟨rfl, b10⟩
      have b11 := b9.trans (b10.mono b9.size)
      rw [List.drop_of_length_le (by simp; omega), show anyL [] s = false from rfl]
      clear HF5 b9 b10
      go_wp2
      go_ret
      exact ⟨rfl, b11⟩
    · go_wp2
      go_ret
      exact ⟨rfl, b9⟩
  have hkn' : ¬ n = k := fun h => hkn h.symm
  have hlt : (k : Int) < n := by omega
  have hkl : k < l.length := by omega
  go_wp2_with fail
  have HD := hide ((unhide HR3).drop k)
  rw [Nat.zero_add] at HD
  refine (get_any _ (n - k) (n - k) (l.drop k) s _ (by simp; omega) (by omega) (unhide HD)).mono ?_
  rintro e w4 ⟨rfl, b6⟩
  have b7 := b5.trans (b6.mono b5.size)
  have HF4 := hide ((unhide HF3).below b6)
  clear HR3 HF3 HD b5 b6
  go_wp2_with fail
  refine (any_any (some x) n c 0 k l s _ hl hn (Nat.zero_le _) hk (unhide HF4)).mono ?_
  rintro e w5 ⟨rfl, b8⟩
  have b9 := b7.trans (b8.mono b7.size)
  have HF5 := hide ((unhide HF4).below b8)
  clear HF4 b7 b8
  rw [List.drop_zero]
  cases hq : anyL (l.take k) s
  · rw [cut_no k hq]
    have HQ := hide (cut_no k hq)
    clear hq
    rcases unhide HF5 with h | ⟨b, off, hx, hB, hc⟩
    · subst h; simp at hl; omega
    obtain rfl := Option.some.inj hx
    have hA := hc k hkl
    have Hhit := hide (getL_hit (s := s) hkl)
    have Hany := hide (anyL_drop (s := s) hkl)
    clear hc hx
    generalize l[k] = f at hA Hhit Hany
    obtain ⟨c0, c1, c2, c3⟩ := hA
    go_wp2_with fail
    refine (named_any f s _).mono ?_
    rintro e w6 ⟨rfl, b10⟩
    have b11 := b9.trans (b10.mono b9.size)
    have HF6 := hide ((unhide HF5).below b10)
    rw [← b10.cell (p := ⟨b, off + k * 4 + 1, none⟩) hB] at c1
    rw [← b10.cell (p := ⟨b, off + k * 4 + 3, none⟩) hB] at c3
    clear HF5 b9 b10 c0 c2
    cases hf : named f s
    · clear Hhit c1 c3
      go_wp2_with fail
      refine (any_any _ n c k n l s _ hl hn hk (Nat.le_refl _) (unhide HF6)).mono ?_
      rintro e w7 ⟨rfl, b12⟩
      have b13 := b11.trans (b12.mono b11.size)
      clear b11 b12 HF6
      rw [List.take_of_length_le (by omega)]
      cases hq : anyL (l.drop k) s
      · rw [← unhide HQ, getL_none hq]
        clear hq HQ Hany
        go_wp2
        go_ret
        exact ⟨rfl, b13⟩
      · clear hq HQ Hany
        go_wp2
        go_ret
        exact ⟨rfl, b13⟩
    · rw [← unhide HQ, unhide Hhit hf]
      clear Hhit
      go_wp2_with fail
      refine (any_any _ n c k n l s _ hl hn hk (Nat.le_refl _) (unhide HF6)).mono ?_
      rintro e w7 ⟨rfl, b12⟩
      have b13 := b11.trans (b12.mono b11.size)
      clear b11 b12 HF6
      rw [List.take_of_length_le (by omega), unhide Hany, hf, Bool.true_or]
      go_wp2
      go_ret
      exact ⟨rfl, b13⟩
  · rw [cut_yes k hq]
    clear hq
    go_wp2
    go_ret
    exact ⟨rfl, b9⟩

set_option maxHeartbeats 400000 in
theorem cut_nil (s : ByteArray) (w : World) (hs : s.size ≤ 1048576) :
    Calls Try.prog 3 #[.slice none 0 0, .int .i64 0, .string s] w fun e w' => e = .returned (.bool true) ∧ Below w.heap.size w w' := by
  go_enter Try.func3, Try.ntmps3
  go_wp2_with fail
  refine (bytesC_any none 0 0 0 [] s _ rfl (Nat.zero_le _) (by unfold maxLen; omega) (fun i h => by simp at h) (.inl rfl)).mono ?_
  rintro e w' (⟨rfl, rfl⟩ | ⟨rfl, rfl, _, hsm⟩)
  · go_wp2
    go_ret
    exact ⟨rfl, Below.refl _ _⟩
  have HS := hide hsm
  clear hsm
  go_wp2_with fail
  refine (tooBig_any none 0 0 [] s ⟨#[]⟩ ⟨#[]⟩ _ rfl (Nat.zero_le _) hs (Nat.zero_le _) (Nat.zero_le _) (unhide HS) (.inl rfl)).mono ?_
  rintro e w' (⟨rfl, rfl⟩ | ⟨rfl, rfl, _⟩)
  · go_wp2
    go_ret
    exact ⟨rfl, Below.refl _ _⟩
  clear HS
  go_wp2_with fail
  refine (fields_nil _).mono ?_
  rintro e w1 ⟨rfl, rfl⟩
  go_wp2_with fail
  refine (get_any none 0 0 [] s _ rfl (by omega) (.inl rfl)).mono ?_
  rintro e w2 ⟨rfl, b1⟩
  go_wp2_with fail
  refine (get_any _ 0 0 [] s _ rfl (by omega) (.inl rfl)).mono ?_
  rintro e w3 ⟨rfl, b2⟩
  have b3 := b1.trans (b2.mono b1.size)
  clear b1 b2
  go_wp2_with fail
  refine (get_any _ 0 0 [] s _ rfl (by omega) (.inl rfl)).mono ?_
  rintro e w4 ⟨rfl, b4⟩
  have b5 := b3.trans (b4.mono b3.size)
  clear b3 b4
  go_wp2_with fail
  refine (any_any none 0 0 0 0 [] s _ rfl (by omega) (by omega) (by omega) (.inl rfl)).mono ?_
  rintro e w5 ⟨rfl, b6⟩
  have b7 := b5.trans (b6.mono b5.size)
  clear b5 b6
  rw [List.take_nil, List.drop_nil, show anyL [] s = false from rfl, show getL [] s = (ByteArray.empty, false) from rfl]
  go_wp2_with fail
  refine (any_any none 0 0 0 0 [] s _ rfl (by omega) (by omega) (by omega) (.inl rfl)).mono ?_
  rintro e w6 ⟨rfl, b8⟩
  have b9 := b7.trans (b8.mono b7.size)
  clear b7 b8
  rw [List.take_nil, List.drop_nil, show anyL [] s = false from rfl]
  go_wp2
  go_ret
  exact ⟨rfl, b9⟩

set_option maxHeartbeats 400000 in
/-- The guards. -/
theorem cut_out (a : Option Addr) (n c : Nat) (k : Int) (l : List Fld) (s : ByteArray) (w : World) (hl : l.length = n) (hn : n ≤ maxLen) (hs : s.size ≤ maxLen) (hz : Sized l) (hr : Row w a l)
    (h : ¬ (n ≤ 65536 ∧ s.size ≤ 1048576 ∧ 0 ≤ k ∧ k ≤ n)) :
    Calls Try.prog 3 #[.slice a n c, .int .i64 k, .string s] w fun e w' => e = .returned (.bool true) ∧ Below w.heap.size w w' := by
  have HR := hide hr
  have HZ := hide hz
  have HK := hide h
  clear hr hz h
  go_enter Try.func3, Try.ntmps3
  go_wp2_with fail
  refine (bytesC_any a n c k l s _ hl hn hs (unhide HZ) (unhide HR)).mono ?_
  rintro e w' (⟨rfl, rfl⟩ | ⟨rfl, rfl, hs1, hsm⟩)
  · go_wp2
    go_ret
    exact ⟨rfl, Below.refl _ _⟩
  have HS := hide hsm
  clear hsm HZ
  go_wp2_with fail
  refine (tooBig_any a n c l s ⟨#[]⟩ ⟨#[]⟩ _ hl hn hs1 (Nat.zero_le _) (Nat.zero_le _) (unhide HS) (unhide HR)).mono ?_
  rintro e w' (⟨rfl, rfl⟩ | ⟨rfl, rfl, hn1⟩)
  · go_wp2
    go_ret
    exact ⟨rfl, Below.refl _ _⟩
  clear HS HR
  by_cases hk : k < 0
  · clear HK
    go_wp2
    go_ret
    exact ⟨rfl, Below.refl _ _⟩
  · have hk2 : (n : Int) < k := by have := unhide HK; omega
    clear HK
    go_wp2
    go_ret
    exact ⟨rfl, Below.refl _ _⟩

/-- Every input. -/
theorem cut_any (a : Option Addr) (n c : Nat) (k : Int) (l : List Fld) (s : ByteArray) (w : World) (hl : l.length = n) (hn : n ≤ maxLen) (hs : s.size ≤ maxLen) (hz : Sized l) (ha : a = none → n = 0 ∧ c = 0) (hr : Row w a l) :
    Calls Try.prog 3 #[.slice a n c, .int .i64 k, .string s] w fun e w' => e = .returned (.bool true) ∧ Below w.heap.size w w' := by
  by_cases h : n ≤ 65536 ∧ s.size ≤ 1048576 ∧ 0 ≤ k ∧ k ≤ n
  · obtain ⟨h1, h2, h3, h4⟩ := h
    obtain ⟨k, rfl⟩ := Int.eq_ofNat_of_zero_le h3
    cases a with
    | some x => exact cut_row x n c k l s w hl h1 (by omega) h2 hz hr
    | none =>
      obtain ⟨rfl, rfl⟩ := ha rfl
      obtain rfl : k = 0 := by omega
      exact cut_nil s w h2
  · exact cut_out a n c k l s w hl hn hs hz hr h

end Go.Proofs.Qxb6630781a
