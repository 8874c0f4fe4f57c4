/-
  THE CONTRACT of zzAnyNamed (9).
-/
import Derived.Test.Qxb6630781aHeader
namespace Go.Proofs.Qxb6630781a
open Go.RowKit

set_option maxHeartbeats 400000 in
theorem any_any (a : Option Addr) (n c lo hi : Nat) (l : List Fld) (s : ByteArray) (w : World) (hl : l.length = n) (hn : n ≤ 65536) (h1 : lo ≤ hi) (h2 : hi ≤ n) (hr : Row w a l) :
    Calls Try.prog 9 #[.slice a n c, .int .i64 lo, .int .i64 hi, .string s] w fun e w' => e = .returned (.bool (anyL ((l.take hi).drop lo) s)) ∧ Below w.heap.size w w' := by
  have HR := hide hr
  clear hr
  go_enter Try.func9, Try.ntmps9
  go_wp2
  go_loopw [9] (fun i wr => ∃ k : Nat, lo ≤ k ∧ k ≤ hi ∧ i = .int .i64 k ∧ Below w.heap.size w wr ∧ anyL ((l.take hi).drop lo) s = anyL ((l.take hi).drop k) s) (fun i _ => hi - (intOf i).toNat)
  case atStart => exact ⟨lo, Nat.le_refl _, h1, rfl, Below.refl _ _, rfl⟩
  case round =>
    obtain ⟨k, hlo, hk, rfl, hb, hg⟩ := hrel
    by_cases hlt : k < hi
    · rcases unhide HR with h | ⟨b, off, rfl, hB, hc⟩
      · subst h; simp at hl; omega
      · have hkl : k < l.length := by omega
        have hA := (hc k hkl).below hb hB
        have hkn : (k : Int) < n := by omega
        have hkh : (k : Int) < hi := by omega
        have Hst := hide (anyL_drop (l := l.take hi) (s := s) (k := k) (by simp; omega))
        have et : (l.take hi)[k]'(by simp; omega) = l[k] := by simp
        rw [et] at Hst
        clear et
        have Hg := hide hg
        clear hc hg HR
        generalize l[k] = f at hA Hst
        obtain ⟨c0, c1, c2, c3⟩ := hA
        go_wp2_with fail
        refine (named_any f s _).mono ?_
        rintro e w1 ⟨rfl, b1⟩
        have b2 := hb.trans (b1.mono hb.size)
        clear b1 c0 c1 c2 c3
        cases hq : named f s
        · go_wp2
          go_roundw
          case rel => exact ⟨k + 1, by omega, by omega, by go_num, b2, by rw [unhide Hg, unhide Hst, hq]; simp⟩
          case measure => simp [intOf]; omega
        · go_wp2
          go_ret
          exact ⟨by rw [unhide Hg, unhide Hst, hq]; simp, b2⟩
    · have hkn : k = hi := by omega
      have Hg := hide hg
      clear hg
      go_wp2
      go_ret
      exact ⟨by rw [unhide Hg, List.drop_of_length_le (by simp; omega)]; rfl, hb⟩

end Go.Proofs.Qxb6630781a
