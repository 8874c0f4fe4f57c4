/-
  THE CONTRACT of zzFields (7).
-/
import Derived.Test.Qxb6630781aHeader
namespace Go.Proofs.Qxb6630781a
open Go.RowKit

theorem Try.info35 : (Try.prog.info? 35).map (fun i => (i.zero, i.size, i.bytes)) = some (some (.agg #[.string ⟨#[]⟩, .string ⟨#[]⟩, .bool false, .bool false]), 4, 40) := by kernel_rfl

set_option maxHeartbeats 400000 in
theorem fields_row (x : Addr) (n c : Nat) (l : List Fld) (w : World) (hl : l.length = n) (hn : n ≤ 65536) (hr : Row w (some x) l) :
    Calls Try.prog 7 #[.slice (some x) n c] w fun e w' => e = .returned (.slice (some ⟨w.heap.size, 0, none⟩) n n) ∧ Below w.heap.size w w' ∧ Row w' (some ⟨w.heap.size, 0, none⟩) l := by
  have hq := fun (w : World) => Lib.run_eql_slice_nil (P := Try.prog) w 22 33 (some x) n c 0 0 Try.underlying22
  obtain ⟨i0, hi, hz0, hz1, hz2⟩ := info_parts Try.info35
  have hmk := fun (w : World) => run_make (P := Try.prog) w 26 35 i0 _ Try.underlying26 hi hz0 .i64 .i64 n n (by omega) (by omega) (by rw [hz2]; omega) (by omega)
  rw [hz1] at hmk
  clear hi hz0 hz1 hz2
  have HR := hide hr
  clear hr
  go_enter Try.func7, Try.ntmps7
  go_wp2
  go_loopw [4] (fun i wr => ∃ k : Nat, k ≤ n ∧ i = .int .i64 k ∧ Below w.heap.size w wr ∧ Own wr w.heap.size n (fun i => if i < k then l[i]? else none)) (fun i _ => n - (intOf i).toNat)
  case atStart => exact ⟨0, Nat.zero_le _, rfl, (Below.refl _ _).alloc (Nat.le_refl _) _, (Own.made _ _ _).congr (fun i f _ h => by simp at h)⟩
  case round =>
    obtain ⟨k, hk, rfl, hb, hO⟩ := hrel
    clear hq hmk
    by_cases hlt : k < n
    · rcases unhide HR with h | ⟨b, off, hx, hB, hc⟩
      · subst h; simp at hl; omega
      · obtain rfl := Option.some.inj hx
        clear hx HR
        have hkl : k < l.length := by omega
        have hA := (hc k hkl).below hb hB
        have hkn : (k : Int) < n := by omega
        have HO := hide hO
        have Hf := hide (show l[k]? = some l[k] by simp [hkl])
        clear hc hO
        generalize l[k] = f at hA Hf
        obtain ⟨nm, vl, nu, vu⟩ := f
        obtain ⟨c0, c1, c2, c3⟩ := hA
        simp only at c0 c1 c2 c3
        go_wp2_with fail
        refine (header_any nm vl nu vu _).mono ?_
        rintro e w1 ⟨rfl, b1⟩
        have hO := (unhide HO).below b1 (unhide HO).lt
        have hf := hO.free
        obtain ⟨v0, e0⟩ := hO.cell (j := k * 4) (by omega)
        obtain ⟨v1, e1⟩ := hO.cell (j := k * 4 + 1) (by omega)
        obtain ⟨v2, e2⟩ := hO.cell (j := k * 4 + 2) (by omega)
        obtain ⟨v3, e3⟩ := hO.cell (j := k * 4 + 3) (by omega)
        have HO1 := hide hO
        clear hO c0 c1 c2 c3
        go_wp2
        go_roundw
        case rel =>
          refine ⟨k + 1, by omega, by go_num, below_store (hb.trans (b1.mono hb.size)) (Nat.le_refl _) _ _ _ _ _ _ _ _, ((unhide HO1).store hlt ⟨nm, vl, nu, vu⟩).congr (fun i f hi h => ?_)⟩
          by_cases hik : i = k
          · subst hik
            simp only [Nat.lt_succ_self, if_pos] at h ⊢
            rw [← h, unhide Hf]
          · rw [if_neg hik]
            by_cases h1 : i < k
            · rw [if_pos h1]; rwa [if_pos (by omega)] at h
            · rw [if_neg (by omega)] at h; cases h
        case measure => simp [intOf]; omega
    · have hkn : k = n := by omega
      subst hkn
      have HO := hide hO
      clear hO
      go_wp2
      go_ret
      exact ⟨rfl, hb, (unhide HO).row hl (fun i hi => by rw [if_pos (by omega)]; simp [hi])⟩

theorem fields_nil (w : World) : Calls Try.prog 7 #[.slice none 0 0] w fun e w' => e = .returned (.slice none 0 0) ∧ w' = w := by
  have hq := fun (w : World) => Lib.run_eql_slice_nil (P := Try.prog) w 22 33 none 0 0 0 0 Try.underlying22
  go_enter Try.func7, Try.ntmps7
  go_wp2
  go_ret
  exact ⟨rfl, rfl⟩

/-- Whatever slice: the new one has the same length and the same fields. -/
theorem fields_any (a : Option Addr) (n c : Nat) (l : List Fld) (w : World) (hl : l.length = n) (hn : n ≤ 65536) (hz : a = none → n = 0 ∧ c = 0) (hr : Row w a l) :
    Calls Try.prog 7 #[.slice a n c] w fun e w' => ∃ a', e = .returned (.slice a' n n) ∧ Below w.heap.size w w' ∧ Row w' a' l := by
  cases a with
  | none =>
    obtain ⟨rfl, rfl⟩ := hz rfl
    refine (fields_nil w).mono ?_
    rintro e w' ⟨rfl, rfl⟩
    exact ⟨none, rfl, Below.refl _ _, .inl (List.eq_nil_of_length_eq_zero hl)⟩
  | some x =>
    refine (fields_row x n c l w hl hn hr).mono ?_
    rintro e w' ⟨rfl, h1, h2⟩
    exact ⟨_, rfl, h1, h2⟩

end Go.Proofs.Qxb6630781a
