/-
  THE CONTRACT of Fields.Get (8).
-/
import Derived.Test.Qxb6630781aRows
import Derived.Test.Qxb6630781aParts
namespace Go.Proofs.Qxb6630781a
open Go.RowKit

set_option maxHeartbeats 400000 in
theorem get_any (a : Option Addr) (n c : Nat) (l : List Fld) (s : ByteArray) (w : World) (hl : l.length = n) (hn : n ≤ 100000) (hr : Row w a l) :
    Calls Try.prog 8 #[.slice a n c, .string s] w fun e w' => e = .returned (.tuple #[.string (getL l s).1, .bool (getL l s).2]) ∧ Below w.heap.size w w' := by
  have HR := hide hr
  clear hr
  go_enter Try.func8, Try.ntmps8
  go_wp2
  go_loopw [10] (fun i wr => ∃ k : Nat, k ≤ n ∧ i = .int .i64 k ∧ Below w.heap.size w wr ∧ getL l s = getL (l.drop k) s) (fun i _ => n - (intOf i).toNat)
  case atStart => exact ⟨0, Nat.zero_le _, rfl, Below.refl _ _, by simp⟩
  case round =>
    obtain ⟨k, hk, rfl, hb, hg⟩ := hrel
    by_cases hlt : k < n
    · rcases unhide HR with h | ⟨b, off, rfl, hB, hc⟩
      · subst h; simp at hl; omega
      · have hA := (hc k (by omega)).below hb hB
        have hkl : k < l.length := by omega
        have hdr : named l[k] s = false → getL (l.drop k) s = getL (l.drop (k + 1)) s := getL_drop hkl
        have hht : named l[k] s = true → getL (l.drop k) s = (l[k].vl, !l[k].vu) := getL_hit hkl
        have Hg := hide hg
        clear hg hc HR
        have hkn : (k : Int) < n := by omega
        generalize l[k] = f at hA hdr hht
        obtain ⟨nm, vl, nu, vu⟩ := f
        obtain ⟨c0, c1, c2, c3⟩ := hA
        simp only at c0 c1 c2 c3
        cases hq : nm.toList == s.toList
        · have Hd := hide (hdr (named_no1 hq))
          clear hdr hht
          go_wp2
          go_roundw
          case rel => exact ⟨k + 1, by omega, by go_num, hb.alloc hb.size _, (unhide Hg).trans (unhide Hd)⟩
          case measure => simp [intOf]; omega
        · cases hu : nu
          · subst hu
            have Hd := hide (hht (named_yes hq rfl))
            clear hdr hht
            have hq' : nm.toList = s.toList := by simpa using hq
            go_wp2
            go_quiet (fail)
            go_wp2
            go_ret2
            rw [unhide Hg, unhide Hd]
            exact ⟨rfl, below_drewN (hb.alloc hb.size _) _⟩
          · subst hu
            have Hd := hide (hdr (named_no2 rfl))
            clear hdr hht
            have hq' : nm.toList = s.toList := by simpa using hq
            go_wp2
            go_roundw
            case rel => exact ⟨k + 1, by omega, by go_num, hb.alloc hb.size _, (unhide Hg).trans (unhide Hd)⟩
            case measure => simp [intOf]; omega
    · have hkn : k = n := by omega
      have Hg := hide hg
      clear hg
      go_wp2
      go_ret2
      rw [unhide Hg, List.drop_of_length_le (by omega)]
      exact ⟨rfl, hb⟩

end Go.Proofs.Qxb6630781a
