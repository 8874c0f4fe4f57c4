/-
  THE ARGUMENT '[]Field' OPENED: what can be read as data is a row of fields.
-/
import Derived.Test.Qxb6630781aRows
import Derived.Test.Qxb6630781aParts
import Derived.Test.Qxb6630781aSizes
import Derived.WalkKit
import Derived.ProofKit
import Derived.OpenShut
import Derived.Deep.Slices
namespace Go.Proofs.Qxb6630781a
open Go.ChangeShapes Go.WideShapes Go.ChangeAt Go.RowKit

theorem Try.cells33 : Try.prog.cellsOf 33 = 4 := by kernel_rfl
theorem Try.cells9 : Try.prog.cellsOf 9 = 1 := by kernel_rfl
theorem Try.cells4 : Try.prog.cellsOf 4 = 1 := by kernel_rfl

/-- One field out of its four cells. -/
theorem open_field {H : Type} {enc : TypeId × Value → H} {w : World} {base fuel : Nat} {spare : Nat → Bool} {held : Bool} {cs : List Value} {x : DataW H × List MemPlace}
    (h : DataW.trod enc Try.prog w base spare held fuel 33 cs = some x) :
    ∃ f : Fld, cs = [.string f.nm, .string f.vl, .bool f.nu, .bool f.vu] ∧ f.nm.size ≤ maxLen ∧ f.vl.size ≤ maxLen := by
  obtain ⟨xs, n, _, _, hl, hlen, hf⟩ := DataW.trod_struct Try.underlying33 h
  rw [Try.cells33] at hl
  match cs, hl, xs, hlen with
  | [c0, c1, c2, c3], _, [y0, y1, y2, y3], _ =>
    have h0 := hf 0 _ rfl
    have h1 := hf 1 _ rfl
    have h2 := hf 2 _ rfl
    have h3 := hf 3 _ rfl
    simp [Try.cells9, Try.cells4] at h0 h1 h2 h3
    obtain ⟨s0, e0, _, z0⟩ := DataW.trod_string Try.underlying9 h0
    obtain ⟨s1, e1, _, z1⟩ := DataW.trod_string Try.underlying9 h1
    obtain ⟨b2, e2, _⟩ := DataW.trod_bool Try.underlying4 h2
    obtain ⟨b3, e3, _⟩ := DataW.trod_bool Try.underlying4 h3
    simp at e0 e1 e2 e3
    subst e0 e1 e2 e3
    exact ⟨⟨s0, s1, b2, b3⟩, rfl, z0, z1⟩

/-- The slice. -/
theorem open_row {H : Type} {enc : TypeId × Value → H} {w : World} {fuel : Nat} {a : Option Addr} {n c : Nat} {x : DataW H × List MemPlace}
    (h : DataW.trod enc Try.prog w 0 (fun _ => true) true fuel 22 [.slice a n c] = some x) :
    ∃ l : List Fld, l.length = n ∧ n ≤ maxLen ∧ Sized l ∧ (a = none → n = 0 ∧ c = 0) ∧ Row w a l := by
  rcases Go.Deep.open_slice Try.underlying22 h with ⟨hcs, _⟩ | ⟨ad, len, cap, m, q, D, Pl, hcs, _, hlc, hcm, hm, _, hx⟩
  · simp at hcs
    obtain ⟨rfl, rfl, rfl⟩ := hcs
    exact ⟨[], rfl, Nat.zero_le _, fun i h => by simp at h, fun _ => ⟨rfl, rfl⟩, .inl rfl⟩
  · simp at hcs
    obtain ⟨rfl, rfl, rfl⟩ := hcs
    simp only [if_true] at hm
    subst hm
    rw [Try.cells33] at hx
    have each : ∀ i, i < n → ∃ f : Fld, f.nm.size ≤ maxLen ∧ f.vl.size ≤ maxLen ∧ w.cells? 0 (ad.add (i * 4)) 4 = some [.string f.nm, .string f.vl, .bool f.nu, .bool f.vu] := by
      intro i hi
      obtain ⟨cs, h1, h2⟩ := hx i (by omega)
      obtain ⟨f, rfl, z0, z1⟩ := open_field h2
      exact ⟨f, z0, z1, h1⟩
    have : Inhabited Fld := ⟨⟨ByteArray.empty, ByteArray.empty, false, false⟩⟩
    obtain ⟨F, hF⟩ := Go.Deep.choose_lt each
    refine ⟨(List.range n).map F, by simp, by omega, fun i hi => ?_, (fun h => by cases h), ?_⟩
    · have hi' : i < n := by simpa using hi
      simpa using ⟨(hF i hi').1, (hF i hi').2.1⟩
    · by_cases h0 : n = 0
      · subst h0; exact .inl rfl
      · obtain ⟨b, off, spot⟩ := ad
        have hc0 := (World.cells?_some (hF 0 (by omega)).2.2).2.2 0 (by omega)
        have hspot : spot = none := by simpa [Addr.add] using World.cell?_spot hc0
        subst hspot
        refine .inr ⟨b, off, rfl, ?_, fun i hi => ?_⟩
        · simpa [Addr.add] using World.block_lt_of_cell? w _ hc0
        · have hi' : i < n := by simpa using hi
          have hc := (World.cells?_some (hF i hi').2.2).2.2
          have e : ((List.range n).map F)[i] = F i := by simp
          rw [e]
          have p0 := hc 0 (by omega)
          have p1 := hc 1 (by omega)
          have p2 := hc 2 (by omega)
          have p3 := hc 3 (by omega)
          rw [add_plain, add_plain] at p0 p1 p2 p3
          exact ⟨p0, p1, p2, p3⟩

end Go.Proofs.Qxb6630781a
