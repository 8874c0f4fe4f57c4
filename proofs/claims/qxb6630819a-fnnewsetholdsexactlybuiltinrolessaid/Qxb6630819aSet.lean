/-
  A SET IN MEMORY: what NewSet leaves, and what keeps it.
-/
import Derived.Test.Qxb6630819aMaps
import Derived.Test.Qxb6630819aRoles
namespace Go.Proofs.Qxb6630819a
open Go.RowKit
open Go.ChangeMaps (setBlock)

theorem hide {p : Prop} (h : p) : Hid p := h
theorem unhide {p : Prop} (h : Hid p) : p := h

/-- The first k entries of the two tables; N: the first block of the set. -/
def entR (N j : Nat) : MapEntry := { key := K nmM (nm j), val := .pointer (some ⟨N + 8 + ro j, 0, none⟩), born := j }
def entB (j : Nat) : MapEntry := { key := K nmM (nm j), val := .bool true, born := j }
def ents (N k : Nat) : List MapEntry := (List.range k).map (entR N)
def entsB (k : Nat) : List MapEntry := (List.range k).map entB

theorem ents_succ (N k : Nat) : ents N (k + 1) = ents N k ++ [entR N k] := by simp [ents, List.range_succ]
theorem entsB_succ (k : Nat) : entsB (k + 1) = entsB k ++ [entB k] := by simp [entsB, List.range_succ]
theorem keys_ents (N k : Nat) : Keys (ents N k) := by
  intro e he
  simp only [ents, List.mem_map] at he
  obtain ⟨j, _, rfl⟩ := he
  exact ⟨_, _, rfl⟩
theorem keys_entsB (k : Nat) : Keys (entsB k) := by
  intro e he
  simp only [entsB, List.mem_map] at he
  obtain ⟨j, _, rfl⟩ := he
  exact ⟨_, _, rfl⟩
theorem fresh_ents (N k : Nat) (h : k < 4) : fnd nmM (nm k) (ents N k) 0 = none := by
  match k, h with
  | 0, _ => rfl
  | 1, _ => rfl
  | 2, _ => rfl
  | 3, _ => rfl
theorem fresh_entsB (k : Nat) (h : k < 4) : fnd nmM (nm k) (entsB k) 0 = none := by
  match k, h with
  | 0, _ => rfl
  | 1, _ => rfl
  | 2, _ => rfl
  | 3, _ => rfl

/-- A set whose tables hold the first k built-in roles, from block N on. -/
structure SetAt (w : World) (N k : Nat) : Prop where
  box : w.heap[N + 7]? = some (.cells #[.slice none 0 0, .map (some N), .map (some (N + 1)), .map (some (N + 2)), .map (some (N + 3)), .map (some (N + 4)), .map (some (N + 5)), .map (some (N + 6))] 34 (0, 0))
  roles : MapAt w N (ents N k) k
  builtin : MapAt w (N + 1) (entsB k) k
  rest : ∀ j, 2 ≤ j → j < 7 → MapAt w (N + j) [] 0
  list : ListAt w (N + 8 + 18) (N + 8)
  role : ∀ j, j < 4 → RoleAt w (N + 8 + ro j) j (N + 8 + ru j)
  rules : ∀ j, j < 4 → RulesAt w (N + 8 + ru j)
  size : N + 27 ≤ w.heap.size

theorem ro_lt (j : Nat) : ro j < 18 ∧ 0 < ro j := by unfold ro; split <;> omega
theorem ru_lt (j : Nat) : ru j < 18 ∧ 0 < ru j := by unfold ru; split <;> omega

/-- What else turns is none of the set's. -/
theorem SetAt.congr {w w' : World} {N k : Nat} (h : SetAt w N k) (hs : w.heap.size ≤ w'.heap.size) (hh : ∀ j, N ≤ j → j < N + 27 → w'.heap[j]? = w.heap[j]?) : SetAt w' N k where
  box := (hh _ (by omega) (by omega)).trans h.box
  roles := (hh _ (by omega) (by omega)).trans h.roles
  builtin := (hh _ (by omega) (by omega)).trans h.builtin
  rest := fun j h2 h7 => (hh _ (by omega) (by omega)).trans (h.rest j h2 h7)
  list := (hh _ (by omega) (by omega)).trans h.list
  role := fun j hj => (hh _ (by omega) (by have := ro_lt j; omega)).trans (h.role j hj)
  rules := fun j hj => by
    obtain ⟨ca, ta, e⟩ := h.rules j hj
    exact ⟨ca, ta, (hh _ (by omega) (by have := ru_lt j; omega)).trans e⟩
  size := Nat.le_trans h.size hs

theorem SetAt.alloc {w : World} {N k : Nat} (h : SetAt w N k) (o : Obj) : SetAt (w.alloc o) N k :=
  h.congr (by simp) (fun j _ hj => by have := h.size; exact Below.heap_alloc w o j (by omega))
theorem SetAt.below {w w' : World} {N k B : Nat} (h : SetAt w N k) (hb : Below B w w') (hB : N + 27 ≤ B) : SetAt w' N k :=
  h.congr hb.size (fun j _ hj => hb.block j (by omega))

/-- The world ahead of builtinRoles: seven maps and the box. -/
def mapsBox (N : Nat) : List Obj :=
  [.map #[] 0, .map #[] 0, .map #[] 0, .map #[] 0, .map #[] 0, .map #[] 0, .map #[] 0,
    .cells #[.slice none 0 0, .map (some N), .map (some (N + 1)), .map (some (N + 2)), .map (some (N + 3)), .map (some (N + 4)), .map (some (N + 5)), .map (some (N + 6))] 34 (0, 0)]

/-- Behind builtinRoles the set stands, its tables empty. -/
theorem SetAt.start {w W w1 : World} (hW : W = allocs w (mapsBox w.heap.size)) (hb : Below W.heap.size W w1) (hs : w1.heap.size = W.heap.size + 19) (hl : ListAt w1 (W.heap.size + 18) W.heap.size)
    (hr : ∀ k, k < 4 → RoleAt w1 (W.heap.size + ro k) k (W.heap.size + ru k)) (hu : ∀ k, k < 4 → RulesAt w1 (W.heap.size + ru k)) :
    Below w.heap.size w w1 ∧ SetAt w1 w.heap.size 0 := by
  have hz : W.heap.size = w.heap.size + 8 := by rw [hW, allocs_size]; rfl
  have hbk : ∀ j o, (mapsBox w.heap.size)[j]? = some o → w1.heap[w.heap.size + j]? = some o := by
    intro j o h
    have hj : j < 8 := by
      have := (List.getElem?_eq_some_iff.1 h).1
      simpa [mapsBox] using this
    rw [hb.block _ (by omega), hW]
    exact allocs_block _ _ j o h
  rw [hz] at hl hr hu hs
  refine ⟨(by rw [hW]; exact allocs_below _ _ : Below w.heap.size w W).trans (hb.mono (by omega)), ⟨hbk 7 _ rfl, hbk 0 _ rfl, hbk 1 _ rfl, fun j h2 h7 => ?_, hl, hr, hu, by omega⟩⟩
  match j, h2, h7 with
  | 2, _, _ => exact hbk 2 _ rfl
  | 3, _, _ => exact hbk 3 _ rfl
  | 4, _, _ => exact hbk 4 _ rfl
  | 5, _, _ => exact hbk 5 _ rfl
  | 6, _, _ => exact hbk 6 _ rfl

/-! ### cells -/
theorem SetAt.cellList {w : World} {N k : Nat} (h : SetAt w N k) {j : Nat} (hj : j < 4) : w.cell? ⟨N + 8 + 18, j, none⟩ = some (.pointer (some ⟨N + 8 + ro j, 0, none⟩)) := by
  rw [cell_of_row w _ j _ _ _ h.list]
  match j, hj with
  | 0, _ => rfl
  | 1, _ => rfl
  | 2, _ => rfl
  | 3, _ => rfl
theorem SetAt.cellBox {w : World} {N k : Nat} (h : SetAt w N k) (j : Nat) (h1 : 1 ≤ j) (h7 : j < 8) : w.cell? ⟨N + 7, j, none⟩ = some (.map (some (N + (j - 1)))) := by
  rw [cell_of_row w _ j _ _ _ h.box]
  match j, h1, h7 with
  | 1, _, _ => rfl
  | 2, _, _ => rfl
  | 3, _, _ => rfl
  | 4, _, _ => rfl
  | 5, _, _ => rfl
  | 6, _, _ => rfl
  | 7, _, _ => rfl
theorem SetAt.cellRole {w : World} {N k : Nat} (h : SetAt w N k) {j : Nat} (hj : j < 4) (i : Nat) :
    w.cell? ⟨N + 8 + ro j, i, none⟩ = (#[Value.string nmM, .string (nm j), .slice (some ⟨N + 8 + ru j, 0, none⟩) (rl j) (rl j), .bool false])[i]? :=
  cell_of_row w _ i _ _ _ (h.role j hj)

/-! ### a block set -/
theorem block_other (w : World) {b j : Nat} (o : Obj) (h : j ≠ b) : (setBlock w b o).heap[j]? = w.heap[j]? := by
  simp only [setBlock]
  rw [Array.getElem?_setIfInBounds_ne (by omega)]
theorem block_same (w : World) {b : Nat} (o : Obj) (h : b < w.heap.size) : (setBlock w b o).heap[b]? = some o := by
  simp [setBlock, h]
theorem block_size (w : World) (b : Nat) (o : Obj) : (setBlock w b o).heap.size = w.heap.size := by simp [setBlock]
theorem block_below {B : Nat} {a w : World} (h : Below B a w) {b : Nat} (hb : B ≤ b) (o : Obj) : Below B a (setBlock w b o) :=
  h.trans ⟨rfl, rfl, rfl, Nat.le_of_eq (block_size w b o).symm, fun k hk => block_other w o (by omega)⟩

/-- A role put into the first table. -/
theorem SetAt.put1 {w : World} {N k : Nat} (h : SetAt w N k) (hk : k < 4) :
    (Instr.mapUpdate 26 (.map (some N)) (.agg #[.string nmM, .string (nm k)]) (.pointer (some ⟨N + 8 + ro k, 0, none⟩))).run Try.prog w = .ok () (setBlock w N (.map (ents N (k + 1)).toArray (k + 1))) := by
  rw [run_put Try.underlying26 h.roles (keys_ents N k) nmM (nm k) _ (fresh_ents N k hk), ents_succ]
  rfl
theorem SetAt.put2 {w : World} {N k : Nat} (h : MapAt w (N + 1) (entsB k) k) (hk : k < 4) :
    (Instr.mapUpdate 27 (.map (some (N + 1))) (.agg #[.string nmM, .string (nm k)]) (.bool true)).run Try.prog w = .ok () (setBlock w (N + 1) (.map (entsB (k + 1)).toArray (k + 1))) := by
  rw [run_put Try.underlying27 h (keys_entsB k) nmM (nm k) _ (fresh_entsB k hk), entsB_succ]
  rfl

/-- A round of NewSet's loop: the key's block, then both stores. -/
theorem SetAt.step {w : World} {N k : Nat} (h : SetAt w N k) (hk : k < 4) : ∃ W6 W7 : World,
    (Instr.mapUpdate 26 (.map (some N)) (.agg #[.string nmM, .string (nm k)]) (.pointer (some ⟨N + 8 + ro k, 0, none⟩))).run Try.prog (w.alloc (.cells #[.string nmM, .string (nm k)] 44)).drew.drew = .ok () W6 ∧
    (Instr.mapUpdate 27 (.map (some (N + 1))) (.agg #[.string nmM, .string (nm k)]) (.bool true)).run Try.prog W6.drew = .ok () W7 ∧
    W6.cell? ⟨N + 7, 2, none⟩ = some (.map (some (N + 1))) ∧ W6.cell? ⟨w.heap.size, 0, none⟩ = some (.string nmM) ∧ W6.cell? ⟨w.heap.size, 1, none⟩ = some (.string (nm k)) ∧
    Below N w W7 ∧ SetAt W7 N (k + 1) := by
  have h5 : SetAt (w.alloc (.cells #[.string nmM, .string (nm k)] 44)).drew.drew N k := (h.alloc (.cells #[.string nmM, .string (nm k)] 44)).congr (Nat.le_refl _) (fun _ _ _ => rfl)
  have hz := h.size
  have hz5 : (w.alloc (.cells #[.string nmM, .string (nm k)] 44)).drew.drew.heap.size = w.heap.size + 1 := by
    show (w.heap.push _).size = _
    simp
  have hnew : (w.alloc (.cells #[.string nmM, .string (nm k)] 44)).drew.drew.heap[w.heap.size]? = some (.cells #[.string nmM, .string (nm k)] 44 (0, 0)) := heap_alloc_new w _
  have hb5 : Below N w (w.alloc (.cells #[.string nmM, .string (nm k)] 44)).drew.drew := (((Below.refl N w).alloc (by omega) _).drew).drew
  generalize (w.alloc (.cells #[.string nmM, .string (nm k)] 44)).drew.drew = W5 at h5 hz5 hnew hb5
  have r6 := h5.put1 hk
  have m6 : MapAt (setBlock W5 N (.map (ents N (k + 1)).toArray (k + 1))).drew (N + 1) (entsB k) k := (block_other W5 _ (by omega)).trans h5.builtin
  have r7 := SetAt.put2 m6 hk
  refine ⟨_, _, r6, r7, ?_, ?_, ?_, ?_, ?_⟩
  · rw [cell_of_row _ _ 2 _ _ _ ((block_other W5 _ (by omega)).trans h5.box)]; rfl
  · rw [cell_of_row _ _ 0 _ _ _ ((block_other W5 _ (by omega)).trans hnew)]; rfl
  · rw [cell_of_row _ _ 1 _ _ _ ((block_other W5 _ (by omega)).trans hnew)]; rfl
  · exact block_below (block_below hb5 (Nat.le_refl _) _).drew (by omega) _
  · have ot : ∀ j, j ≠ N → j ≠ N + 1 → (setBlock (setBlock W5 N (.map (ents N (k + 1)).toArray (k + 1))).drew (N + 1) (.map (entsB (k + 1)).toArray (k + 1))).heap[j]? = W5.heap[j]? := by
      intro j h1 h2
      rw [block_other _ _ h2]
      exact block_other _ _ h1
    refine ⟨(ot _ (by omega) (by omega)).trans h5.box, ?_, ?_, fun j h2 h7 => (ot _ (by omega) (by omega)).trans (h5.rest j h2 h7), (ot _ (by omega) (by omega)).trans h5.list, fun j hj => (ot _ (by omega) (by omega)).trans (h5.role j hj), fun j hj => ?_, ?_⟩
    · refine (block_other _ _ (by omega)).trans ?_
      exact block_same W5 _ (by omega)
    · exact block_same _ _ (by rw [show (setBlock W5 N (.map (ents N (k + 1)).toArray (k + 1))).drew.heap.size = W5.heap.size from block_size W5 N _]; omega)
    · obtain ⟨ca, ta, e⟩ := h5.rules j hj
      exact ⟨ca, ta, (ot _ (by omega) (by omega)).trans e⟩
    · rw [block_size]
      exact Nat.le_trans h5.size (Nat.le_of_eq (block_size W5 N _).symm)

end Go.Proofs.Qxb6630819a
