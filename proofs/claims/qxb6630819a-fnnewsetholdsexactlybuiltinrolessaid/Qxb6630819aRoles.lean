/-
  THE CONTRACT of builtinRoles (16): nineteen new blocks; the four roles among them.
-/
import Derived.Test.Qxb6630819aRows
import Derived.WalkKit
import Derived.WalkSpells
import Derived.WalkLawsBesides
namespace Go.Proofs.Qxb6630819a
open Go.RowKit

def nmM : ByteArray := ⟨#[109, 97, 115, 116, 101, 114]⟩
/-- The four names. -/
def nm : Nat → ByteArray
  | 0 => ⟨#[118, 105, 101, 119]⟩
  | 1 => ⟨#[101, 100, 105, 116]⟩
  | 2 => ⟨#[97, 100, 109, 105, 110]⟩
  | _ => ⟨#[99, 108, 117, 115, 116, 101, 114, 45, 97, 100, 109, 105, 110]⟩
/-- Where role k lies, where its rules lie, how many they are. -/
def ro : Nat → Nat
  | 0 => 3
  | 1 => 7
  | 2 => 13
  | _ => 17
def ru : Nat → Nat
  | 0 => 2
  | 1 => 6
  | 2 => 12
  | _ => 16
def rl : Nat → Nat
  | 2 => 2
  | _ => 1

/-- Block b is role k, its rules in block g. -/
def RoleAt (w : World) (b k g : Nat) : Prop := w.heap[b]? = some (.cells #[.string nmM, .string (nm k), .slice (some ⟨g, 0, none⟩) (rl k) (rl k), .bool false] 50 (0, 0))
/-- The list of the four. -/
def ListAt (w : World) (b N : Nat) : Prop := w.heap[b]? = some (.cells #[.pointer (some ⟨N + 3, 0, none⟩), .pointer (some ⟨N + 7, 0, none⟩), .pointer (some ⟨N + 13, 0, none⟩), .pointer (some ⟨N + 17, 0, none⟩)] 46 (0, 0))

/-- Block g is a row, whatever it holds. -/
def RulesAt (w : World) (g : Nat) : Prop := ∃ ca ta, w.heap[g]? = some (.cells ca ta (0, 0))

def allocs (w : World) (l : List Obj) : World := l.foldl World.alloc w
theorem allocs_heap (w : World) (l : List Obj) : (allocs w l).heap = w.heap ++ l.toArray := by
  induction l generalizing w with
  | nil => simp [allocs]
  | cons o t ih =>
    have h : allocs w (o :: t) = allocs (w.alloc o) t := rfl
    rw [h, ih]
    show (w.heap.push o) ++ t.toArray = _
    apply Array.ext'
    simp
theorem allocs_below (w : World) (l : List Obj) : Below w.heap.size w (allocs w l) := by
  have h : ∀ (l : List Obj) (a : World), Below w.heap.size w a → Below w.heap.size w (allocs a l) := by
    intro l
    induction l with
    | nil => intro a h; exact h
    | cons o t ih => intro a h; exact ih (a.alloc o) (h.alloc h.size o)
  exact h l w (Below.refl _ _)
theorem allocs_block (w : World) (l : List Obj) (j : Nat) (o : Obj) (h : l[j]? = some o) : (allocs w l).heap[w.heap.size + j]? = some o := by
  rw [allocs_heap, Array.getElem?_append_right (by omega)]
  simpa using h
theorem allocs_size (w : World) (l : List Obj) : (allocs w l).heap.size = w.heap.size + l.length := by
  rw [allocs_heap]; simp

set_option maxHeartbeats 8000000 in
set_option maxRecDepth 100000 in
theorem roles_any (w : World) : Calls Try.prog 16 #[] w fun e w' => e = .returned (.slice (some ⟨w.heap.size + 18, 0, none⟩) 4 4) ∧ Below w.heap.size w w' ∧ w'.heap.size = w.heap.size + 19 ∧
    ListAt w' (w.heap.size + 18) w.heap.size ∧ (∀ k, k < 4 → RoleAt w' (w.heap.size + ro k) k (w.heap.size + ru k)) ∧ ∀ k, k < 4 → RulesAt w' (w.heap.size + ru k) := by
  go_enter Try.func16, Try.ntmps16
  go_wp2
  go_ret
  refine ⟨rfl, ?_⟩
  have key : ∀ o0 o1 o2 o3 o4 o5 o6 o7 o8 o9 o10 o11 o12 o13 o14 o15 o16 o17 o18 : Obj,
      (∀ k, k < 4 → [o0, o1, o2, o3, o4, o5, o6, o7, o8, o9, o10, o11, o12, o13, o14, o15, o16, o17, o18][ro k]? = some (.cells #[.string nmM, .string (nm k), .slice (some ⟨w.heap.size + ru k, 0, none⟩) (rl k) (rl k), .bool false] 50 (0, 0))) →
      (∀ k, k < 4 → ∃ ca ta, [o0, o1, o2, o3, o4, o5, o6, o7, o8, o9, o10, o11, o12, o13, o14, o15, o16, o17, o18][ru k]? = some (.cells ca ta (0, 0))) →
      o18 = .cells #[.pointer (some ⟨w.heap.size + 3, 0, none⟩), .pointer (some ⟨w.heap.size + 7, 0, none⟩), .pointer (some ⟨w.heap.size + 13, 0, none⟩), .pointer (some ⟨w.heap.size + 17, 0, none⟩)] 46 (0, 0) →
      Below w.heap.size w (allocs w [o0, o1, o2, o3, o4, o5, o6, o7, o8, o9, o10, o11, o12, o13, o14, o15, o16, o17, o18]) ∧
      (allocs w [o0, o1, o2, o3, o4, o5, o6, o7, o8, o9, o10, o11, o12, o13, o14, o15, o16, o17, o18]).heap.size = w.heap.size + 19 ∧
      ListAt (allocs w [o0, o1, o2, o3, o4, o5, o6, o7, o8, o9, o10, o11, o12, o13, o14, o15, o16, o17, o18]) (w.heap.size + 18) w.heap.size ∧
      (∀ k, k < 4 → RoleAt (allocs w [o0, o1, o2, o3, o4, o5, o6, o7, o8, o9, o10, o11, o12, o13, o14, o15, o16, o17, o18]) (w.heap.size + ro k) k (w.heap.size + ru k)) ∧ ∀ k, k < 4 → RulesAt (allocs w [o0, o1, o2, o3, o4, o5, o6, o7, o8, o9, o10, o11, o12, o13, o14, o15, o16, o17, o18]) (w.heap.size + ru k) := by
    intro o0 o1 o2 o3 o4 o5 o6 o7 o8 o9 o10 o11 o12 o13 o14 o15 o16 o17 o18 h1 h3 h2
    exact ⟨allocs_below _ _, allocs_size _ _, allocs_block _ _ 18 _ (by rw [← h2]; rfl), fun k hk => allocs_block _ _ (ro k) _ (h1 k hk), fun k hk => by obtain ⟨ca, ta, h⟩ := h3 k hk; exact ⟨ca, ta, allocs_block _ _ (ru k) _ h⟩⟩
  refine key _ _ _ _ _ _ _ _ _ _ _ _ _ _ _ _ _ _ _ (fun k hk => ?_) (fun k hk => ?_) rfl
  · match k, hk with
    | 0, _ => rfl
    | 1, _ => rfl
    | 2, _ => rfl
    | 3, _ => rfl
  · match k, hk with
    | 0, _ => exact ⟨_, _, rfl⟩
    | 1, _ => exact ⟨_, _, rfl⟩
    | 2, _ => exact ⟨_, _, rfl⟩
    | 3, _ => exact ⟨_, _, rfl⟩

end Go.Proofs.Qxb6630819a
