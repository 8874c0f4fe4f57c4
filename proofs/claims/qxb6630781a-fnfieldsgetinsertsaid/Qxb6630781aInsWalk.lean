/-
  THE WALK of FnFieldsGetInsert (4).
-/
import Derived.Test.Qxb6630781aInsPlain
import Derived.Test.Qxb6630781aGet
import Derived.Test.Qxb6630781aFields
import Derived.Test.Qxb6630781aAny
import Derived.Test.Qxb6630781aSizes
namespace Go.Proofs.Qxb6630781a
open Go.RowKit

set_option maxHeartbeats 1000000 in
theorem ins_main (a : Option Addr) (n c p : Nat) (l : List Fld) (s v u : ByteArray) (w : World) (hl : l.length = n) (hn : n ≤ 65536) (hp : p ≤ n) (hs : s.size ≤ 1048576) (hv : v.size ≤ 1048576) (hu : u.size ≤ 1048576) (hz : Sized l)
    (ha : a = none → n = 0 ∧ c = 0) (hr : Row w a l) :
    Calls Try.prog 4 #[.slice a n c, .int .i64 p, .string s, .string v, .string u] w fun e w' => e = .returned (.bool true) ∧ Below w.heap.size w w' := by
  have HR := hide hr
  have HZ := hide hz
  have HA := hide ha
  clear hr hz ha
  obtain ⟨i0, hi, hz0, hz1, hz2⟩ := info_parts Try.info35
  have hmk := fun (w : World) => run_make (P := Try.prog) w 26 35 i0 _ Try.underlying26 hi hz0 .i64 .i64 ((n : Int) + 2) ((n : Int) + 2) (by omega) (by omega) (by rw [hz2]; omega) (by omega)
  rw [hz1, show ((n : Int) + 2).toNat = n + 2 by omega] at hmk
  clear hi hz0 hz1 hz2
  have d1 : decide ((p : Int) < 0) = false := decide_eq_false (by omega)
  have d2 : decide ((n : Int) < (p : Int)) = false := decide_eq_false (by omega)
  have d3 : decide (n < p) = false := decide_eq_false (by omega)
  go_enter Try.func4, Try.ntmps4
  go_wp2_with fail
  refine (bytesI_any a n c p l s v u _ hl (by unfold maxLen; omega) (by unfold maxLen; omega) (by unfold maxLen; omega) (by unfold maxLen; omega) (unhide HZ) (unhide HR)).mono ?_
  rintro e w' (⟨rfl, rfl⟩ | ⟨rfl, rfl, _, _, _, hsm⟩)
  · go_wp2
    go_ret
    exact ⟨rfl, Below.refl _ _⟩
  have HS := hide hsm
  clear hsm HZ
  go_wp2_with fail
  refine (tooBig_any a n c l s v u _ hl (by unfold maxLen; omega) hs hv hu (unhide HS) (unhide HR)).mono ?_
  rintro e w (⟨rfl, rfl⟩ | ⟨rfl, rfl, _⟩)
  · go_wp2
    go_ret
    exact ⟨rfl, Below.refl _ _⟩
  clear HS
  go_wp2_with fail
  clear hmk
  have hpn : (p : Int) ≤ n := by omega
  obtain ⟨L, hL⟩ : ∃ L, L = insL l p s v u := ⟨_, rfl⟩
  have HL := hide hL
  clear hL
  go_loopw [12] (fun i wr => ∃ k : Nat, k ≤ p ∧ i = .int .i64 k ∧ Below w.heap.size w wr ∧ Own wr w.heap.size (n + 2) (upto L k)) (fun i _ => p - (intOf i).toNat)
  case atStart => exact ⟨0, Nat.zero_le _, rfl, (Below.refl _ _).alloc (Nat.le_refl _) _, (Own.made _ _ _).start _⟩
  case round =>
    obtain ⟨k, hk, rfl, hb, hO⟩ := hrel
    have HO := hide hO
    clear hO
    by_cases hlt : k < p
    · rcases unhide HR with h | ⟨b, off, rfl, hB, hc⟩
      · subst h; simp at hl; omega
      · have hkl : k < l.length := by omega
        have hA := (hc k hkl).below hb hB
        have hkn : (k : Int) < n := by omega
        have hkp : (k : Int) < p := by omega
        have Hf := hide (show L[k]? = some l[k] by rw [unhide HL, insL_lo (by omega) hlt]; simp [hkl])
        clear hc
        generalize l[k] = f at hA Hf
        obtain ⟨nm, vl, nu, vu⟩ := f
        obtain ⟨c0, c1, c2, c3⟩ := hA
        simp only at c0 c1 c2 c3
        go_wp2_with fail
        refine (header_any nm vl nu vu _).mono ?_
        rintro e w1 ⟨rfl, b1⟩
        have hO := (unhide HO).below b1 (unhide HO).lt
        have hf := hO.free
        obtain ⟨v0, e0⟩ := hO.cell (j := k * 4) (by omega)
        obtain ⟨v1, e1⟩ := hO.cell (j := k * 4 + 1) (by omega)
        obtain ⟨v2, e2⟩ := hO.cell (j := k * 4 + 2) (by omega)
        obtain ⟨v3, e3⟩ := hO.cell (j := k * 4 + 3) (by omega)
        have HO1 := hide (hO.next (by omega) (unhide Hf))
        clear hO c0 c1 c2 c3
        have hkn2 : (k : Int) < (n : Int) + 2 := by omega
        go_wp2
        go_roundw
        case rel => exact ⟨k + 1, by omega, by go_num, below_store (hb.trans (b1.mono hb.size)) (Nat.le_refl _) _ _ _ _ _ _ _ _, unhide HO1⟩
        case measure => simp [intOf]; omega
    · obtain rfl : k = p := by omega
      have hO := unhide HO
      have hf := hO.free
      obtain ⟨v0, e0⟩ := hO.cell (j := k * 4) (by omega)
      obtain ⟨v1, e1⟩ := hO.cell (j := k * 4 + 1) (by omega)
      obtain ⟨v2, e2⟩ := hO.cell (j := k * 4 + 2) (by omega)
      obtain ⟨v3, e3⟩ := hO.cell (j := k * 4 + 3) (by omega)
      obtain ⟨y0, g0⟩ := hO.cell (j := (k + 1) * 4) (by omega)
      obtain ⟨y1, g1⟩ := hO.cell (j := (k + 1) * 4 + 1) (by omega)
      obtain ⟨y2, g2⟩ := hO.cell (j := (k + 1) * 4 + 2) (by omega)
      obtain ⟨y3, g3⟩ := hO.cell (j := (k + 1) * 4 + 3) (by omega)
      clear hO
      go_wp2
      have HO2 := hide (((unhide HO).next (by omega) (show L[k]? = some (fA s u) by rw [unhide HL]; exact insL_A (by omega))).next (by omega) (show L[k + 1]? = some (fB s v) by rw [unhide HL]; exact insL_B (by omega)))
      have b1 := below_store (below_store hb (Nat.le_refl _) (k * 4) (k * 4 + 1) (k * 4 + 2) (k * 4 + 3) (.string s) (.string u) (.bool true) (.bool false)) (Nat.le_refl _) ((k + 1) * 4) ((k + 1) * 4 + 1) ((k + 1) * 4 + 2) ((k + 1) * 4 + 3) (.string s) (.string v) (.bool false) (.bool false)
      clear HO hb e0 e1 e2 e3 g0 g1 g2 g3 hf
      go_loopw [13] (fun i wr => ∃ j : Nat, k ≤ j ∧ j ≤ n ∧ i = .int .i64 j ∧ Below w.heap.size w wr ∧ Own wr w.heap.size (n + 2) (upto L (j + 2))) (fun i _ => n - (intOf i).toNat)
      case atStart => exact ⟨k, Nat.le_refl _, hp, rfl, b1, unhide HO2⟩
      case round =>
        clear HO2 b1
        obtain ⟨j, hkj, hj, rfl, hb, hO⟩ := hrel
        have HO := hide hO
        clear hO
        by_cases hlt : j < n
        · rcases unhide HR with h | ⟨b, off, rfl, hB, hc⟩
          · subst h; simp at hl; omega
          · have hkl : j < l.length := by omega
            have hA := (hc j hkl).below hb hB
            have hkn : (j : Int) < n := by omega
            have Hf := hide (show L[j + 2]? = some l[j] by rw [unhide HL, insL_hi (by omega) (by omega)]; simp [hkl])
            clear hc
            generalize l[j] = f at hA Hf
            obtain ⟨nm, vl, nu, vu⟩ := f
            obtain ⟨c0, c1, c2, c3⟩ := hA
            simp only at c0 c1 c2 c3
            go_wp2_with fail
            refine (header_any nm vl nu vu _).mono ?_
            rintro e w1 ⟨rfl, b1⟩
            have hO := (unhide HO).below b1 (unhide HO).lt
            have hf := hO.free
            obtain ⟨v0, e0⟩ := hO.cell (j := (j + 2) * 4) (by omega)
            obtain ⟨v1, e1⟩ := hO.cell (j := (j + 2) * 4 + 1) (by omega)
            obtain ⟨v2, e2⟩ := hO.cell (j := (j + 2) * 4 + 2) (by omega)
            obtain ⟨v3, e3⟩ := hO.cell (j := (j + 2) * 4 + 3) (by omega)
            have HO1 := hide (hO.next (by omega) (unhide Hf))
            clear hO c0 c1 c2 c3
            go_wp2
            go_roundw
            case rel => exact ⟨j + 1, by omega, by omega, by go_num, below_store (hb.trans (b1.mono hb.size)) (Nat.le_refl _) _ _ _ _ _ _ _ _, unhide HO1⟩
            case measure => simp [intOf]; omega
        · obtain rfl : j = n := by omega
          have HG := hide ((unhide HO).all (by rw [unhide HL, insL_len]; omega))
          have HF := hide ((unhide HR).below hb)
          clear HO HR
          go_wp2_with fail
          refine (fields_any a j c l _ hl hn (unhide HA) (unhide HF)).mono ?_
          rintro e w1 ⟨a', rfl, b1, R1⟩
          have b2 := hb.trans (b1.mono hb.size)
          have HG1 := hide ((unhide HG).below b1)
          have HF1 := hide ((unhide HF).below b1)
          have HR1 := hide R1
          clear HG HF R1 hb b1 HA
          go_wp2_with fail
          refine (get_any _ (j + 2) (j + 2) L s _ (by rw [unhide HL, insL_len]; omega) (by omega) (unhide HG1)).mono ?_
          rintro e w2 ⟨rfl, b3⟩
          have b4 := b2.trans (b3.mono b2.size)
          have HF2 := hide ((unhide HF1).below b3)
          have HR2 := hide ((unhide HR1).below b3)
          clear HG1 HF1 HR1 b2 b3
          go_wp2_with fail
          refine (get_any _ j j l s _ hl (by omega) (unhide HR2)).mono ?_
          rintro e w3 ⟨rfl, b5⟩
          have b6 := b4.trans (b5.mono b4.size)
          have HF3 := hide ((unhide HF2).below b5)
          clear HF2 HR2 b4 b5
          go_wp2_with fail
          refine (any_any a j c 0 k l s _ hl hn (Nat.zero_le _) hp (unhide HF3)).mono ?_
          rintro e w4 ⟨rfl, b7⟩
          have b8 := b6.trans (b7.mono b6.size)
          clear HF3 b6 b7
          rw [List.drop_zero]
          cases hq : anyL (l.take k) s
          · rw [unhide HL, ins_no hq]
            clear hq HL
            go_wp2
            go_ret
            exact ⟨rfl, b8⟩
          · rw [unhide HL, ins_yes hq]
            clear hq HL
            go_wp2
            go_ret
            exact ⟨rfl, b8⟩

set_option maxHeartbeats 400000 in
/-- The guards. -/
theorem ins_out (a : Option Addr) (n c : Nat) (p : Int) (l : List Fld) (s v u : ByteArray) (w : World) (hl : l.length = n) (hn : n ≤ maxLen) (hs : s.size ≤ maxLen) (hv : v.size ≤ maxLen) (hu : u.size ≤ maxLen) (hz : Sized l) (hr : Row w a l)
    (h : ¬ (n ≤ 65536 ∧ s.size ≤ 1048576 ∧ v.size ≤ 1048576 ∧ u.size ≤ 1048576 ∧ 0 ≤ p ∧ p ≤ n)) :
    Calls Try.prog 4 #[.slice a n c, .int .i64 p, .string s, .string v, .string u] w fun e w' => e = .returned (.bool true) ∧ Below w.heap.size w w' := by
  have HR := hide hr
  have HZ := hide hz
  have HK := hide h
  clear hr hz h
  go_enter Try.func4, Try.ntmps4
  go_wp2_with fail
  refine (bytesI_any a n c p l s v u _ hl hn hs hv hu (unhide HZ) (unhide HR)).mono ?_
  rintro e w' (⟨rfl, rfl⟩ | ⟨rfl, rfl, hs1, hv1, hu1, hsm⟩)
  · go_wp2
    go_ret
    exact ⟨rfl, Below.refl _ _⟩
  have HS := hide hsm
  clear hsm HZ
  go_wp2_with fail
  refine (tooBig_any a n c l s v u _ hl hn hs1 hv1 hu1 (unhide HS) (unhide HR)).mono ?_
  rintro e w (⟨rfl, rfl⟩ | ⟨rfl, rfl, hn1⟩)
  · go_wp2
    go_ret
    exact ⟨rfl, Below.refl _ _⟩
  clear HS HR
  by_cases hk : p < 0
  · clear HK
    go_wp2
    go_ret
    exact ⟨rfl, Below.refl _ _⟩
  · have hk2 : (n : Int) < p := by have := unhide HK; omega
    clear HK
    go_wp2
    go_ret
    exact ⟨rfl, Below.refl _ _⟩

/-- Every input. -/
theorem ins_any (a : Option Addr) (n c : Nat) (p : Int) (l : List Fld) (s v u : ByteArray) (w : World) (hl : l.length = n) (hn : n ≤ maxLen) (hs : s.size ≤ maxLen) (hv : v.size ≤ maxLen) (hu : u.size ≤ maxLen) (hz : Sized l)
    (ha : a = none → n = 0 ∧ c = 0) (hr : Row w a l) :
    Calls Try.prog 4 #[.slice a n c, .int .i64 p, .string s, .string v, .string u] w fun e w' => e = .returned (.bool true) ∧ Below w.heap.size w w' := by
  by_cases h : n ≤ 65536 ∧ s.size ≤ 1048576 ∧ v.size ≤ 1048576 ∧ u.size ≤ 1048576 ∧ 0 ≤ p ∧ p ≤ n
  · obtain ⟨h1, h2, h3, h4, h5, h6⟩ := h
    obtain ⟨p, rfl⟩ := Int.eq_ofNat_of_zero_le h5
    exact ins_main a n c p l s v u w hl h1 (by omega) h2 h3 h4 hz ha hr
  · exact ins_out a n c p l s v u w hl hn hs hv hu hz hr h

end Go.Proofs.Qxb6630781a
