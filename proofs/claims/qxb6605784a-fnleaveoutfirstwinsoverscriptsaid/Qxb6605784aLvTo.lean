import Derived.Test.Qxb6605784aLvBuilt
namespace Go.Proofs.Qxb6605784a.Leave
open Go.RowKit
open Extern.Stop (cell)
set_option linter.unusedVariables false

theorem size28 : (Try.prog.info? 28).map (·.size) = some 32 := by kernel_rfl
theorem size72 : (Try.prog.info? 72).map (·.size) = some 33 := by kernel_rfl

theorem cells_one (K : List UInt8) : ∀ v ∈ K.map cell, v.oneCell' = true := fun v hv => by
  obtain ⟨x, _, rfl⟩ := List.mem_map.1 hv
  rfl
theorem part_one (K : List UInt8) (t : Int) : ∀ v ∈ partCells K t, v.oneCell' = true := fun v hv => by
  simp only [partCells, List.mem_append, List.mem_map, List.mem_singleton] at hv
  rcases hv with ⟨x, _, rfl⟩ | rfl <;> rfl

theorem rangeAt_left {w : World} {b o : Nat} {xs ys : List Value} (h : w.rangeAt b o (xs ++ ys)) : w.rangeAt b o xs := fun j v hv =>
  h j v (by rw [List.getElem?_append_left (List.getElem?_eq_some_iff.1 hv).1]; exact hv)
theorem rangeAt_right {w : World} {b o n : Nat} {xs ys : List Value} (h : w.rangeAt b o (xs ++ ys)) (hn : xs.length = n) : w.rangeAt b (o + n) ys := fun j v hv => by
  rw [Nat.add_assoc]
  exact h (n + j) v (by rw [List.getElem?_append_right (by omega), ← hn, Nat.add_sub_cancel_left]; exact hv)

theorem storeCells_run {P : Program} {w : World} {b o n : Nat} (vs : List Value) (hl : vs.length = n) (ht : w.there b o n) (h1 : ∀ v ∈ vs, v.oneCell' = true) : (storeCells ⟨b, o, none⟩ vs).run P w = .ok () (w.setCells b o vs) := by
  have := run_storeCells_cells (P := P) b o vs 0 w (fun j hj => by simpa using (ht j (by omega)).1) (fun j hj => by simpa using (ht j (by omega)).2) h1
  simpa using this

attribute [-go_sem] Instr.build
attribute [local go_sem high] build72
set_option maxHeartbeats 8000000 in
set_option maxRecDepth 100000 in
theorem to_any (a : Option Addr) (b o n c : Nat) (K : Nat → List UInt8) (T : Nat → Int) (w : World) (h : IsParts w a b o n K T) (hn : n ≤ 1048576) :
    Calls Try.prog 13 #[.slice a n c] w fun e w' => PartsPost a n K T w e w' := by
  have q22 : ∀ (w : World) (a : Option Addr) (n c n' c' : Nat), (binOp .eql 30 (.slice a n c) (.slice none n' c')).run Try.prog w = .ok (.bool a.isNone) w := fun w a n c n' c' => Lib.run_eql_slice_nil w _ _ a n c n' c' Try.underlying30
  cases a with
  | none =>
    have hn0 : n = 0 := by
      rcases Nat.eq_zero_or_pos n with h0 | h0
      · exact h0
      · exact absurd (h.top h0) (by simp)
    go_enter Try.func13, Try.ntmps13
    go_wp2
    go_ret
    subst hn0
    exact ⟨none, w.heap.size, 0, 0, rfl, ⟨fun h => absurd h (Nat.lt_irrefl _), fun r hr => absurd hr (Nat.not_lt_zero _), fun r hr => absurd hr (Nat.not_lt_zero _)⟩, rfl, Nat.le_refl _, Below.refl _ _⟩
  | some ga =>
  obtain ⟨z, hz⟩ := info72
  obtain ⟨Z, hZ, hmk⟩ := make_wide (P := Try.prog) 34 72 z 33 40 Try.underlying34 hz .i64 .i64 n (by omega) (by omega)
  go_enter Try.func13, Try.ntmps13
  go_wp2
  clear hmk q22 hz
  go_loopg [4] n (fun m i wr => ∃ k : Nat, k ≤ n ∧ m = n - k ∧ i = .int .i64 k ∧ (∃ V, wr.rowIs w.heap.size 72 (n * 33) V) ∧ (∀ i, i < k → wr.rangeAt w.heap.size (i * 33) (partCells (K i) (T i))) ∧ Below w.heap.size w wr)
  case atStart => exact ⟨0, Nat.zero_le _, rfl, rfl, rowIs_made_wide _ _ _ _ hZ, fun i hi => absurd hi (Nat.not_lt_zero _), (Below.refl _ _).alloc (Nat.le_refl _) _⟩
  case round =>
    obtain ⟨k, hk, rfl, rfl, ⟨V, hrow⟩, hall, hbel⟩ := hrel
    by_cases hlt : k < n
    · have hkz : (k : Int) < (n : Int) := by omega
      have hk0 : (0 : Int) ≤ (k : Int) := by omega
      obtain rfl := Option.some.inj (h.top (by omega))
      have hbl : b ≠ w.heap.size := by
        have hp := h.cell k hlt
        have h0 : (partCells (K k) (T k))[0]? ≠ none := by
          rw [Ne, List.getElem?_eq_none_iff, partCells_len (h.len k hlt)]; omega
        obtain ⟨v, hv⟩ := Option.ne_none_iff_exists'.1 h0
        exact Nat.ne_of_lt (World.block_lt_of_cell? _ _ (hp 0 v hv))
      have g0 : wr.rangeAt b (o + k * 33) (partCells (K k) (T k)) := rangeAt_below (h.cell k hlt) hbel
      have lK : (K k).length = 32 := h.len k hlt
      have hl33 : (partCells (K k) (T k)).length = 33 := partCells_len (h.len k hlt)
      have k1 : k * 33 + 33 ≤ n * 33 := by omega
      have th := there_of_row hrow (o := k * 33) (k := 33) k1
      have g1 : wr.rangeAt b (o + k * 33) ((K k).map cell) := rangeAt_left g0
      have g2 : wr.cell? ⟨b, o + k * 33 + 32, none⟩ = some (.int .u64 (T k)) := g0 32 _ (by simp [partCells, lK])
      have b72 := build72 (K k) (T k) lK
      have l32 : ((K k).map cell).length = 32 := by simpa using lK
      have hu28 := Try.underlying28
      have hu72 := Try.underlying72
      have hi28 : (Try.prog.info? 28).map (·.size) = some ((K k).map cell).length := by rw [l32]; exact size28
      have hi72 : (Try.prog.info? 72).map (·.size) = some (partCells (K k) (T k)).length := by rw [hl33]; exact size72
      have o1 := cells_one (K k)
      have o2 := part_one (K k) (T k)
      have hst : (storeCells ⟨w.heap.size, k * 33, none⟩ (partCells (K k) (T k))).run Try.prog wr.drew = .ok () (wr.drew.setCells w.heap.size (k * 33) (partCells (K k) (T k))) := storeCells_run _ hl33 (by simpa using th) o2
      go_wp2_with fail
      go_region_held3 (fun w' => w'.rangeAt b (o + k * 33) ((K k).map cell) ∧ w'.cell? ⟨b, o + k * 33 + 32, none⟩ = some (.int .u64 (T k)) ∧ w'.there w.heap.size (k * 33) 33) (first | go_keep_ranges | (go_split_ands; refine ⟨?_, ?_, ?_⟩ <;> first | assumption | (simp only [World.rangeAt_drew, World.there_drew, World.cell?_drew] at *; first | assumption | (apply World.there_setCells; assumption) | (refine World.rangeAt_setCells_apart (by assumption) _ _ _ (.inl hbl)) | (rw [World.cell?_setCells_out _ _ _ _ _ (fun e _ => absurd e hbl)]; simpa using (by assumption))))) (fail)
      go_wp2
      go_roundg (n - (k + 1))
      case measure => omega
      case rel =>
        have hrow' := hrow.drew
        refine ⟨k + 1, by omega, rfl, by go_num, ⟨_, Go.rowIs_setCells _ _ _ _ hrow.drew⟩, fun i hi => ?_, Go.below_setCells (Nat.le_refl _) _ _ _ hbel.drew⟩
        by_cases e : i = k
        · subst e
          exact World.rangeAt_setCells_same _ _ _ _ (by simpa [hl33] using th)
        · have hik : i < k := by omega
          exact World.rangeAt_setCells_apart (by simpa using hall i hik) _ _ _ (.inr (.inl (by rw [partCells_len (h.len i (by omega))]; omega)))
    · have hkz : ¬ (k : Int) < (n : Int) := by omega
      obtain rfl : k = n := by omega
      go_wp2
      go_ret
      exact ⟨_, w.heap.size, 0, _, rfl, ⟨fun _ => rfl, h.len, fun i hi => by rw [Nat.zero_add]; exact hall i hi⟩, rfl, Nat.le_refl _, hbel⟩

end Go.Proofs.Qxb6605784a.Leave
