/-
  MAPS KEYED BY objectKey, entry by entry: what a look-up, a store of a new key and a delete do.
-/
import Derived.Test.Qxb6630819aRows
import Derived.WalkKit
import Derived.WalkSpells
import Derived.WalkLawsBesides
import Derived.Laws.StructEq
namespace Go.Proofs.Qxb6630819a
open Go.RowKit
open Go.ChangeMaps (setBlock)

theorem check_key (em : Bool) (a b : ByteArray) (w : World) : (Instr.checkKey em 10000 44 (.agg #[.string a, .string b])).run Try.prog w = .ok () w := by kernel_rfl

theorem fields44 : Try.prog.underlying 44 = some (.struct (Try.prog.fieldsOf 44)) := by kernel_rfl
theorem held44 : Try.prog.stoodInHeld 44 = false := by kernel_rfl

theorem part0 (a b : ByteArray) (w : World) : (part 9 #[.string a, .string b] 0).run Try.prog w = .ok (.string a) w := by kernel_rfl
theorem part1 (a b : ByteArray) (w : World) : (part 9 #[.string a, .string b] 1).run Try.prog w = .ok (.string b) w := by kernel_rfl
theorem eq_strd (n : Nat) (a c : ByteArray) (w : World) : (Op.equalIn (n + 1) 9 (.string a) (.string c)).run Try.prog w = .ok (a == c) w := by
  simp [Op.equalIn, run_underlying Try.underlying9]
theorem eq_str (a c : ByteArray) (w : World) : (Op.equalIn 9999 9 (.string a) (.string c)).run Try.prog w = .ok (a == c) w := eq_strd 9998 a c w

theorem eq_key (a b c d : ByteArray) (w : World) :
    (Op.equal 44 (.agg #[.string a, .string b]) (.agg #[.string c, .string d])).run Try.prog w = .ok (a == c && b == d) w := by
  unfold Op.equal Op.maxDepth
  rw [run_equalIn_struct w 9999 44 _ _ fields44 held44]
  have hf := Try.underlying44
  simp only [Program.fieldsOf, hf, Op.eqFields]
  simp [part0, part1, eq_str]
  cases h1 : a == c <;> cases h2 : b == d <;> simp

/-- The key as a value. -/
def K (a b : ByteArray) : Value := .agg #[.string a, .string b]

/-- Every key of the list is a pair of strings. -/
def Keys (es : List MapEntry) : Prop := ∀ e ∈ es, ∃ c d, e.key = K c d
/-- Is this the key? -/
def isK (a b : ByteArray) : Value → Bool
  | .agg ⟨[.string c, .string d]⟩ => a == c && b == d
  | _ => false
/-- Where the key stands in the list, from i on. -/
def fnd (a b : ByteArray) : List MapEntry → Nat → Option (Nat × Value)
  | [], _ => none
  | e :: es, i => if isK a b e.key then some (i, e.val) else fnd a b es (i + 1)

theorem find_asking (a b : ByteArray) (es : List MapEntry) (i : Nat) (w : World) (h : Keys es) : (Instr.findAsking 44 (K a b) es i).run Try.prog w = .ok (fnd a b es i) w := by
  induction es generalizing i with
  | nil => simp [Instr.findAsking, fnd]
  | cons e es ih =>
    obtain ⟨c, d, hk⟩ := h e (by simp)
    have hq : isK a b e.key = (a == c && b == d) := by rw [hk]; rfl
    have he := eq_key a b c d w
    have ih' := ih (i + 1) (fun x hx => h x (by simp [hx]))
    simp only [Instr.findAsking, fnd, Sem.run_bind, hq]
    rw [hk]
    unfold K at *
    rw [he]
    simp only [Result.andThen]
    cases hb : (a == c && b == d)
    · simp [ih']
    · simp

theorem find_key (a b : ByteArray) (es : List MapEntry) (w : World) (h : Keys es) : (Instr.findKey 44 (K a b) es).run Try.prog w = .ok (fnd a b es 0) w := by
  unfold Instr.findKey
  simp only [Sem.run_bind, run_underlying Try.underlying44, Result.andThen]
  cases es with
  | nil => simp [Instr.findNow, fnd]
  | cons e es =>
    have : Instr.findNow (TypeDesc.struct (Try.prog.fieldsOf 44)) (K a b) (e :: es) 0 = none := by simp [Instr.findNow, Instr.sameNow]
    have hf := fields44
    rw [Try.underlying44] at hf
    rw [Option.some.inj hf, this]
    exact find_asking a b (e :: es) 0 w h

/-! ### the three operations -/
/-- Block b is a map of these entries, each keyed by a pair of strings. -/
def MapAt (w : World) (b : Nat) (es : List MapEntry) (clk : Nat) : Prop := w.heap[b]? = some (.map es.toArray clk)


theorem run_put {w : World} {b : Nat} {es : List MapEntry} {clk : Nat} {t e : TypeId} (ht : Try.prog.underlying t = some (.map 44 e)) (hb : MapAt w b es clk) (hk : Keys es) (a c : ByteArray) (v : Value) (hn : fnd a c es 0 = none) :
    (Instr.mapUpdate t (.map (some b)) (.agg #[.string a, .string c]) v).run Try.prog w = .ok () (setBlock w b (.map (es ++ [({ key := K a c, val := v, born := clk } : MapEntry)]).toArray (clk + 1))) := by
  unfold MapAt at hb
  have hf := find_key a c es w hk
  unfold K at hf
  rw [hn] at hf
  simp [Instr.mapUpdate, run_underlying ht, MapKept.run_getObj_map hb, check_key, hf, MapKept.run_setObj_map _ hb, Result.andThen, setBlock, K]

theorem run_look {w : World} {b : Nat} {es : List MapEntry} {clk : Nat} {t e : TypeId} {z : Value} (ht : Try.prog.underlying t = some (.map 44 e)) (hz : ∀ w, (zeroValue e).run Try.prog w = .ok z w) (hb : MapAt w b es clk) (hk : Keys es) (a c : ByteArray) (co : Bool) :
    (Instr.lookup t (.map (some b)) (.agg #[.string a, .string c]) co).run Try.prog w = .ok (if co then .tuple #[((fnd a c es 0).map (·.2)).getD z, .bool (fnd a c es 0).isSome] else ((fnd a c es 0).map (·.2)).getD z) w := by
  unfold MapAt at hb
  have hf := find_key a c es w hk
  unfold K at hf
  cases hq : fnd a c es 0 with
  | none =>
    rw [hq] at hf
    simp [Instr.lookup, run_underlying ht, MapKept.run_getObj_map hb, check_key, hf, hz, Result.andThen]
  | some x =>
    obtain ⟨i, v⟩ := x
    rw [hq] at hf
    simp [Instr.lookup, run_underlying ht, MapKept.run_getObj_map hb, check_key, hf, Result.andThen]

theorem run_drop {w : World} {b : Nat} {es : List MapEntry} {clk : Nat} {t e : TypeId} (ty : TypeId) (ht : Try.prog.underlying t = some (.map 44 e)) (hb : MapAt w b es clk) (hk : Keys es) (a c : ByteArray) (i : Nat) (v : Value) (hn : fnd a c es 0 = some (i, v)) :
    (Builtin.delete_ #[t, 44] ty #[.map (some b), .agg #[.string a, .string c]]).run Try.prog w = .ok (.tuple #[]) (setBlock w b (.map (es.eraseIdx i).toArray clk)) := by
  unfold MapAt at hb
  have hf := find_key a c es w hk
  unfold K at hf
  rw [hn] at hf
  simp [Builtin.delete_, run_underlying ht, MapKept.run_getObj_map hb, check_key, hf, MapKept.run_setObj_map _ hb, Result.andThen, setBlock]

theorem run_size {w : World} {b : Nat} {es : List MapEntry} {clk : Nat} {t k e : TypeId} (ty : TypeId) (ht : Try.prog.underlying t = some (.map k e)) (hb : MapAt w b es clk) :
    (Builtin.len_ #[t] ty #[.map (some b)]).run Try.prog w = .ok (.int .i64 es.length) w := by
  unfold MapAt at hb
  simp [Builtin.len_, run_underlying ht, MapKept.run_getObj_map hb, goInt, Result.andThen]

end Go.Proofs.Qxb6630819a
