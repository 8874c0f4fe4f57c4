/-
  SMALL RUNS: two pointers into two blocks; ZZkey (15); look-ups in a set's tables.
-/
import Derived.Test.Qxb6630819aNew
import Derived.LaidEql
namespace Go.Proofs.Qxb6630819a
open Go.RowKit
open Go.ChangeMaps (setBlock)

theorem run_equalIn_ptr (d : Nat) {t e : TypeId} {sz : Nat} (ht : Try.prog.underlying t = some (.pointer e)) (hs : ∀ w, (sizeOf e).run Try.prog w = .ok sz w) (hz : sz ≠ 0) {w : World} {a b : Addr} {ca cb : Array Value} {ta tb : TypeId}
    (hne : a ≠ b) (ha : w.heap[a.block]? = some (.cells ca ta (0, 0))) (hb : w.heap[b.block]? = some (.cells cb tb (0, 0))) :
    (Op.equalIn (d + 1) t (.pointer (some a)) (.pointer (some b))).run Try.prog w = .ok false w := by
  have hq := run_sameAddr_other (P := Try.prog) w hne ha hb
  simp [Op.equalIn, run_underlying ht, hs, hz, hq]

theorem run_eql_ptr {t e : TypeId} {sz : Nat} (ht : Try.prog.underlying t = some (.pointer e)) (hs : ∀ w, (sizeOf e).run Try.prog w = .ok sz w) (hz : sz ≠ 0) {w : World} {a b : Addr} {ca cb : Array Value} {ta tb : TypeId}
    (hne : a ≠ b) (ha : w.heap[a.block]? = some (.cells ca ta (0, 0))) (hb : w.heap[b.block]? = some (.cells cb tb (0, 0))) :
    (binOp .eql t (.pointer (some a)) (.pointer (some b))).run Try.prog w = .ok (.bool false) w := by
  simp only [binOp]
  simp [Op.equal, Op.maxDepth, run_equalIn_ptr 9999 ht hs hz hne ha hb]

theorem size34 (w : World) : (sizeOf 34).run Try.prog w = .ok 8 w := by kernel_rfl
theorem size50 (w : World) : (sizeOf 50).run Try.prog w = .ok 4 w := by kernel_rfl
theorem size55 (w : World) : (sizeOf 55).run Try.prog w = .ok 7 w := by kernel_rfl
theorem zero46 (w : World) : (zeroValue 46).run Try.prog w = .ok (.pointer none) w := by kernel_rfl
theorem zero4 (w : World) : (zeroValue 4).run Try.prog w = .ok (.bool false) w := by kernel_rfl

theorem key_any (a b : ByteArray) (w : World) : Calls Try.prog 15 #[.string a, .string b] w fun e w' => e = .returned (.agg #[.string a, .string b]) ∧ Below w.heap.size w w' := by
  go_enter Try.func15, Try.ntmps15
  go_wp2
  exact bodyPost_ret (v := .agg #[.string a, .string b]) (by simp [results, Try.results15, go_sem]) rfl ⟨rfl, (Below.refl _ _).alloc (Nat.le_refl _) _⟩

/-! ### the shims -/
theorem get7 (b m : Nat) (w : World) (h : w.cell? ⟨b, 1, none⟩ = some (.map (some m))) : Calls Try.prog 7 #[.pointer (some ⟨b, 0, none⟩)] w fun e w' => e = .returned (.map (some m)) ∧ w' = w := by
  go_enter Try.func7, Try.ntmps7
  go_wp2
  go_ret
  exact ⟨rfl, rfl⟩
theorem get8 (b m : Nat) (w : World) (h : w.cell? ⟨b, 2, none⟩ = some (.map (some m))) : Calls Try.prog 8 #[.pointer (some ⟨b, 0, none⟩)] w fun e w' => e = .returned (.map (some m)) ∧ w' = w := by
  go_enter Try.func8, Try.ntmps8
  go_wp2
  go_ret
  exact ⟨rfl, rfl⟩
theorem get9 (b m : Nat) (w : World) (h : w.cell? ⟨b, 3, none⟩ = some (.map (some m))) : Calls Try.prog 9 #[.pointer (some ⟨b, 0, none⟩)] w fun e w' => e = .returned (.map (some m)) ∧ w' = w := by
  go_enter Try.func9, Try.ntmps9
  go_wp2
  go_ret
  exact ⟨rfl, rfl⟩
theorem get10 (b m : Nat) (w : World) (h : w.cell? ⟨b, 4, none⟩ = some (.map (some m))) : Calls Try.prog 10 #[.pointer (some ⟨b, 0, none⟩)] w fun e w' => e = .returned (.map (some m)) ∧ w' = w := by
  go_enter Try.func10, Try.ntmps10
  go_wp2
  go_ret
  exact ⟨rfl, rfl⟩
theorem get11 (b m : Nat) (w : World) (h : w.cell? ⟨b, 5, none⟩ = some (.map (some m))) : Calls Try.prog 11 #[.pointer (some ⟨b, 0, none⟩)] w fun e w' => e = .returned (.map (some m)) ∧ w' = w := by
  go_enter Try.func11, Try.ntmps11
  go_wp2
  go_ret
  exact ⟨rfl, rfl⟩
theorem get12 (b m : Nat) (w : World) (h : w.cell? ⟨b, 6, none⟩ = some (.map (some m))) : Calls Try.prog 12 #[.pointer (some ⟨b, 0, none⟩)] w fun e w' => e = .returned (.map (some m)) ∧ w' = w := by
  go_enter Try.func12, Try.ntmps12
  go_wp2
  go_ret
  exact ⟨rfl, rfl⟩
theorem get13 (b m : Nat) (w : World) (h : w.cell? ⟨b, 7, none⟩ = some (.map (some m))) : Calls Try.prog 13 #[.pointer (some ⟨b, 0, none⟩)] w fun e w' => e = .returned (.map (some m)) ∧ w' = w := by
  go_enter Try.func13, Try.ntmps13
  go_wp2
  go_ret
  exact ⟨rfl, rfl⟩

/-- The look-ups of a name that is there. -/
theorem fnd_ents (N k : Nat) (h : k < 4) : fnd nmM (nm k) (ents N 4) 0 = some (k, .pointer (some ⟨N + 8 + ro k, 0, none⟩)) := by
  match k, h with
  | 0, _ => rfl
  | 1, _ => rfl
  | 2, _ => rfl
  | 3, _ => rfl
theorem fnd_entsB (k : Nat) (h : k < 4) : fnd nmM (nm k) (entsB 4) 0 = some (k, .bool true) := by
  match k, h with
  | 0, _ => rfl
  | 1, _ => rfl
  | 2, _ => rfl
  | 3, _ => rfl

theorem SetAt.lookR {w : World} {N : Nat} (h : SetAt w N 4) {k : Nat} (hk : k < 4) :
    (Instr.lookup 26 (.map (some N)) (.agg #[.string nmM, .string (nm k)]) false).run Try.prog w = .ok (.pointer (some ⟨N + 8 + ro k, 0, none⟩)) w := by
  rw [run_look Try.underlying26 zero46 h.roles (keys_ents N 4) nmM (nm k) false, fnd_ents N k hk]
  rfl
theorem SetAt.lookB {w : World} {N : Nat} (h : SetAt w N 4) {k : Nat} (hk : k < 4) :
    (Instr.lookup 27 (.map (some (N + 1))) (.agg #[.string nmM, .string (nm k)]) false).run Try.prog w = .ok (.bool true) w := by
  rw [run_look Try.underlying27 zero4 h.builtin (keys_entsB 4) nmM (nm k) false, fnd_entsB k hk]
  rfl

theorem nameRow (w : World) {k : Nat} (hk : k < 4) :
    (w.alloc (.cells #[.string ⟨#[118, 105, 101, 119]⟩, .string ⟨#[101, 100, 105, 116]⟩, .string ⟨#[97, 100, 109, 105, 110]⟩, .string ⟨#[99, 108, 117, 115, 116, 101, 114, 45, 97, 100, 109, 105, 110]⟩] 51)).cell? ⟨w.heap.size, k, none⟩ = some (.string (nm k)) := by
  rw [World.cell?_alloc_at _ _ _ _ rfl]
  match k, hk with
  | 0, _ => rfl
  | 1, _ => rfl
  | 2, _ => rfl
  | 3, _ => rfl

theorem rl_pos (k : Nat) : 0 < rl k ∧ rl k ≤ 2 := by unfold rl; split <;> omega

/-- All that the round of the law wants of a world in which both sets stand. -/
theorem two_sets {W : World} {N1 N2 k : Nat} (h1 : SetAt W N1 4) (h2 : SetAt W N2 4) (hN : N1 + 27 ≤ N2) (hk : k < 4) :
    (Instr.lookup 26 (.map (some N1)) (.agg #[.string ⟨#[109, 97, 115, 116, 101, 114]⟩, .string (nm k)]) false).run Try.prog W = .ok (.pointer (some ⟨N1 + 8 + ro k, 0, none⟩)) W ∧
    (Instr.lookup 26 (.map (some N2)) (.agg #[.string ⟨#[109, 97, 115, 116, 101, 114]⟩, .string (nm k)]) false).run Try.prog W = .ok (.pointer (some ⟨N2 + 8 + ro k, 0, none⟩)) W ∧
    (binOp .eql 46 (.pointer (some ⟨N1 + 8 + ro k, 0, none⟩)) (.pointer (some ⟨N2 + 8 + ro k, 0, none⟩))).run Try.prog W = .ok (.bool false) W ∧
    (∀ n, (binOp .eql 52 (.pointer (some ⟨N1 + 8 + ru k, 0, none⟩)) (.pointer (some ⟨N2 + 8 + ru k, 0, none⟩))).run Try.prog (W.drewN n) = .ok (.bool false) (W.drewN n)) ∧
    (∀ n, (Instr.lookup 27 (.map (some (N1 + 1))) (.agg #[.string ⟨#[109, 97, 115, 116, 101, 114]⟩, .string (nm k)]) false).run Try.prog (W.drewN n) = .ok (.bool true) (W.drewN n)) ∧
    (∀ n, (Instr.lookup 27 (.map (some (N2 + 1))) (.agg #[.string ⟨#[109, 97, 115, 116, 101, 114]⟩, .string (nm k)]) false).run Try.prog (W.drewN n) = .ok (.bool true) (W.drewN n)) := by
  have r := ro_lt k
  have u := ru_lt k
  refine ⟨h1.lookR hk, h2.lookR hk, run_eql_ptr Try.underlying46 size50 (by decide) (by intro h; injection h; omega) (h1.role k hk) (h2.role k hk), fun n => ?_, fun n => ?_, fun n => ?_⟩
  · obtain ⟨ca, ta, e1⟩ := h1.rules k hk
    obtain ⟨cb, tb, e2⟩ := h2.rules k hk
    exact run_eql_ptr (w := W.drewN n) Try.underlying52 size55 (by decide) (by intro h; injection h; omega) e1 e2
  · exact (h1.congr (w' := W.drewN n) (Nat.le_refl _) (fun _ _ _ => rfl)).lookB hk
  · exact (h2.congr (w' := W.drewN n) (Nat.le_refl _) (fun _ _ _ => rfl)).lookB hk

/-- 'view' taken out of the first set's tables, both sets standing in W. -/
theorem drop_view {W : World} {N1 N2 c : Nat} (h1 : SetAt W N1 4) (h2 : SetAt W N2 4) (hN : N1 + 27 ≤ N2) (hc : N2 + 27 ≤ c) : ∃ D1 D2 : World,
    (∀ ty, (Builtin.delete_ #[26, 44] ty #[.map (some N1), .agg #[.string ⟨#[109, 97, 115, 116, 101, 114]⟩, .string ⟨#[118, 105, 101, 119]⟩]]).run Try.prog W = .ok (.tuple #[]) D1) ∧
    (∀ ty, (Builtin.delete_ #[27, 44] ty #[.map (some (N1 + 1)), .agg #[.string ⟨#[109, 97, 115, 116, 101, 114]⟩, .string ⟨#[118, 105, 101, 119]⟩]]).run Try.prog D1 = .ok (.tuple #[]) D2) ∧
    (∀ i, D1.cell? ⟨c, i, none⟩ = W.cell? ⟨c, i, none⟩) ∧ (∀ i, D2.cell? ⟨c, i, none⟩ = W.cell? ⟨c, i, none⟩) ∧
    (∀ ty, (Builtin.len_ #[26] ty #[.map (some N1)]).run Try.prog D2 = .ok (.int .i64 3) D2) ∧
    (∀ ty, (Builtin.len_ #[27] ty #[.map (some (N1 + 1))]).run Try.prog D2 = .ok (.int .i64 3) D2) ∧
    (∀ ty, (Builtin.len_ #[26] ty #[.map (some N2)]).run Try.prog D2 = .ok (.int .i64 4) D2) ∧
    (∀ ty, (Builtin.len_ #[27] ty #[.map (some (N2 + 1))]).run Try.prog D2 = .ok (.int .i64 4) D2) ∧
    (Instr.lookup 26 (.map (some N2)) (.agg #[.string ⟨#[109, 97, 115, 116, 101, 114]⟩, .string ⟨#[118, 105, 101, 119]⟩]) false).run Try.prog D2 = .ok (.pointer (some ⟨N2 + 8 + 3, 0, none⟩)) D2 ∧
    (Instr.lookup 27 (.map (some (N2 + 1))) (.agg #[.string ⟨#[109, 97, 115, 116, 101, 114]⟩, .string ⟨#[118, 105, 101, 119]⟩]) false).run Try.prog D2 = .ok (.bool true) D2 ∧
    D2.cell? ⟨N2 + 8 + 3, 1, none⟩ = some (.string ⟨#[118, 105, 101, 119]⟩) ∧ Below N1 W D2 := by
  have z1 := h1.size
  have d1 : ∀ ty, _ := fun ty => run_drop ty Try.underlying26 h1.roles (keys_ents N1 4) nmM (nm 0) 0 _ (fnd_ents N1 0 (by omega))
  have m1 : MapAt (setBlock W N1 (.map ((ents N1 4).eraseIdx 0).toArray 4)) (N1 + 1) (entsB 4) 4 := (block_other W _ (by omega)).trans h1.builtin
  have d2 : ∀ ty, _ := fun ty => run_drop ty Try.underlying27 m1 (keys_entsB 4) nmM (nm 0) 0 _ (fnd_entsB 0 (by omega))
  have ot : ∀ j, j ≠ N1 → j ≠ N1 + 1 → (setBlock (setBlock W N1 (.map ((ents N1 4).eraseIdx 0).toArray 4)) (N1 + 1) (.map ((entsB 4).eraseIdx 0).toArray 4)).heap[j]? = W.heap[j]? := by
    intro j h1 h2
    rw [block_other _ _ h2]
    exact block_other _ _ h1
  have t2 : SetAt (setBlock (setBlock W N1 (.map ((ents N1 4).eraseIdx 0).toArray 4)) (N1 + 1) (.map ((entsB 4).eraseIdx 0).toArray 4)) N2 4 :=
    h2.congr (by rw [block_size, block_size]; exact Nat.le_refl _) (fun j _ _ => ot j (by omega) (by omega))
  have e1 : MapAt (setBlock (setBlock W N1 (.map ((ents N1 4).eraseIdx 0).toArray 4)) (N1 + 1) (.map ((entsB 4).eraseIdx 0).toArray 4)) N1 ((ents N1 4).eraseIdx 0) 4 :=
    (block_other _ _ (by omega)).trans (block_same W _ (by omega))
  have e2 : MapAt (setBlock (setBlock W N1 (.map ((ents N1 4).eraseIdx 0).toArray 4)) (N1 + 1) (.map ((entsB 4).eraseIdx 0).toArray 4)) (N1 + 1) ((entsB 4).eraseIdx 0) 4 :=
    block_same _ _ (by rw [block_size]; omega)
  refine ⟨_, _, d1, d2, fun i => ?_, fun i => ?_, fun ty => run_size ty Try.underlying26 e1, fun ty => run_size ty Try.underlying27 e2, fun ty => run_size ty Try.underlying26 t2.roles, fun ty => run_size ty Try.underlying27 t2.builtin,
    t2.lookR (k := 0) (by omega), t2.lookB (k := 0) (by omega), t2.cellRole (j := 0) (by omega) 1, block_below (block_below (Below.refl _ _) (Nat.le_refl _) _) (by omega) _⟩
  · exact World.cell?_of_block (block_other W _ (by show c ≠ N1; omega))
  · exact World.cell?_of_block (ot c (by omega) (by omega))

end Go.Proofs.Qxb6630819a
