/-
  THE CONTRACTS of zzHeader (12), zzNamed (10).
-/
import Derived.Test.Qxb6630781aRows
import Derived.Test.Qxb6630781aParts
namespace Go.Proofs.Qxb6630781a
open Go.RowKit

theorem header_any (nm vl : ByteArray) (nu vu : Bool) (w : World) :
    Calls Try.prog 12 #[.agg #[.string nm, .string vl, .bool nu, .bool vu]] w fun e w' => e = .returned (.agg #[.string nm, .string vl, .bool nu, .bool vu]) ∧ Below w.heap.size w w' := by
  go_enter Try.func12, Try.ntmps12
  go_wp2
  refine bodyPost_ret (v := .agg #[.string nm, .string vl, .bool nu, .bool vu]) (by simp [results, Try.results12, go_sem]) rfl ⟨rfl, ?_⟩
  exact ((Below.refl _ _).alloc (Nat.le_refl _) _).alloc (by simp) _

theorem named_any (f : Fld) (s : ByteArray) (w : World) :
    Calls Try.prog 10 #[.agg #[.string f.nm, .string f.vl, .bool f.nu, .bool f.vu], .string s] w fun e w' => e = .returned (.bool (named f s)) ∧ Below w.heap.size w w' := by
  obtain ⟨nm, vl, nu, vu⟩ := f
  cases nu
  · go_enter Try.func10, Try.ntmps10
    go_wp2
    go_ret
    exact ⟨by simp [named], (Below.refl _ _).alloc (Nat.le_refl _) _⟩
  · go_enter Try.func10, Try.ntmps10
    go_wp2
    go_ret
    exact ⟨by simp [named], (Below.refl _ _).alloc (Nat.le_refl _) _⟩

end Go.Proofs.Qxb6630781a
