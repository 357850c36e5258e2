import Derived.Test.Qxb6606006aDoorPut
namespace Go.Proofs.Qxb6606006aDoor.Ix
open Go.RowKit
set_option linter.unusedVariables false

/-- A slice of n strings. -/
structure IsStrs (w : World) (a : Option Addr) (b o n : Nat) (S : Nat → ByteArray) : Prop where
  top : 0 < n → a = some ⟨b, o, none⟩
  cell : ∀ i, i < n → w.cell? ⟨b, o + i, none⟩ = some (.string (S i))
/-- A slice of n bytes. -/
structure IsNums (w : World) (a : Option Addr) (b o n : Nat) (K : Nat → Int) : Prop where
  top : 0 < n → a = some ⟨b, o, none⟩
  cell : ∀ i, i < n → w.cell? ⟨b, o + i, none⟩ = some (.int .u8 (K i))

theorem IsStrs.below {w w' : World} {a : Option Addr} {b o n : Nat} {S : Nat → ByteArray} (h : IsStrs w a b o n S) (hb : Below w.heap.size w w') : IsStrs w' a b o n S :=
  ⟨h.top, fun i hi => by rw [hb.cell (p := ⟨b, o + i, none⟩) (World.block_lt_of_cell? _ _ (h.cell i hi))]; exact h.cell i hi⟩
theorem IsNums.below {w w' : World} {a : Option Addr} {b o n : Nat} {K : Nat → Int} (h : IsNums w a b o n K) (hb : Below w.heap.size w w') : IsNums w' a b o n K :=
  ⟨h.top, fun i hi => by rw [hb.cell (p := ⟨b, o + i, none⟩) (World.block_lt_of_cell? _ _ (h.cell i hi))]; exact h.cell i hi⟩

theorem info9 : (Tryd.prog.info? 9).map (fun i => (i.zero, i.size, i.bytes)) = some (some (.string ⟨#[]⟩), 1, 16) := by kernel_rfl
theorem info5 : (Tryd.prog.info? 5).map (fun i => (i.zero, i.size, i.bytes)) = some (some (.int .u8 0), 1, 1) := by kernel_rfl

def StrsPost (n : Nat) (S : Nat → ByteArray) (w : World) (e : Ending) (w' : World) : Prop := ∃ a b o c, e = .returned (.slice a n c) ∧ IsStrs w' a b o n S ∧ Below w.heap.size w w'
def NumsPost (n : Nat) (K : Nat → Int) (w : World) (e : Ending) (w' : World) : Prop := ∃ a b o c, e = .returned (.slice a n c) ∧ IsNums w' a b o n K ∧ Below w.heap.size w w'

set_option maxHeartbeats 400000 in
theorem cloneS_any (a : Option Addr) (b o n c : Nat) (S : Nat → ByteArray) (w : World) (h : IsStrs w a b o n S) (hn : n ≤ 1048576) :
    Calls Tryd.prog 7 #[.slice a n c] w fun e w' => StrsPost n S w e w' := by
  have q22 : ∀ (w : World) (a : Option Addr) (n c n' c' : Nat), (binOp .eql 22 (.slice a n c) (.slice none n' c')).run Tryd.prog w = .ok (.bool a.isNone) w := fun w a n c n' c' => Lib.run_eql_slice_nil w _ _ a n c n' c' Tryd.underlying22
  cases a with
  | none =>
    have hn0 : n = 0 := by
      rcases Nat.eq_zero_or_pos n with h0 | h0
      · exact h0
      · exact absurd (h.top h0) (by simp)
    go_enter Tryd.func7, Tryd.ntmps7
    go_wp2
    go_ret
    subst hn0
    exact ⟨none, 0, 0, 0, rfl, ⟨fun h => absurd h (Nat.lt_irrefl _), fun r hr => absurd hr (Nat.not_lt_zero _)⟩, Below.refl _ _⟩
  | some ga =>
  have hmk := run_make_row' (P := Tryd.prog) 22 9 (.string ⟨#[]⟩) 16 Tryd.underlying22 info9 rfl .i64 .i64 n (by omega) (by omega)
  go_enter Tryd.func7, Tryd.ntmps7
  go_wp2
  clear hmk q22
  go_loopg [4] n (fun m i wr => ∃ k : Nat, k ≤ n ∧ m = n - k ∧ i = .int .i64 k ∧ wr.rowIs w.heap.size 9 n (fun j => .string (if j < k then S j else ⟨#[]⟩)) ∧ Below w.heap.size w wr)
  case atStart => exact ⟨0, Nat.zero_le _, rfl, rfl, (World.rowIs_made w _ n 9).congr (fun j _ => by simp), (Below.refl _ _).alloc (Nat.le_refl _) _⟩
  case round =>
    obtain ⟨k, hk, rfl, rfl, hrow, hbel⟩ := hrel
    by_cases hlt : k < n
    · have hkz : (k : Int) < (n : Int) := by omega
      obtain rfl := Option.some.inj (h.top (by omega))
      have g0 : wr.cell? ⟨b, o + k, none⟩ = some (.string (S k)) := by rw [hbel.cell (p := ⟨b, o + k, none⟩) (World.block_lt_of_cell? _ _ (h.cell k hlt))]; exact h.cell k hlt
      have g1 : wr.cell? ⟨w.heap.size, k, none⟩ = some (.string ⟨#[]⟩) := by rw [hrow.cell hlt, if_neg (by omega)]
      have g2 : wr.frozen? ⟨w.heap.size, k, none⟩ = false := hrow.frozen _
      go_wp2
      go_roundg (n - (k + 1))
      case measure => omega
      case rel =>
        refine ⟨k + 1, by omega, rfl, by go_num, (hrow.set _ _).congr (fun j hj => ?_), hbel.setCell (Nat.le_refl _) _⟩
        go_light
        by_cases e : j = k
        · subst e; rw [if_pos rfl, if_pos (by omega)]
        · rw [if_neg e]
          by_cases e2 : j < k
          · rw [if_pos e2, if_pos (by omega)]
          · rw [if_neg e2, if_neg (by omega)]
    · have hkz : ¬ (k : Int) < (n : Int) := by omega
      obtain rfl : k = n := by omega
      go_wp2
      go_ret
      exact ⟨_, w.heap.size, 0, _, rfl, ⟨fun _ => rfl, fun i hi => by rw [Nat.zero_add, hrow.cell hi, if_pos hi]⟩, hbel⟩

set_option maxHeartbeats 400000 in
theorem cloneN_any (a : Option Addr) (b o n c : Nat) (K : Nat → Int) (w : World) (h : IsNums w a b o n K) (hn : n ≤ 1048576) :
    Calls Tryd.prog 8 #[.slice a n c] w fun e w' => NumsPost n K w e w' := by
  have q22 : ∀ (w : World) (a : Option Addr) (n c n' c' : Nat), (binOp .eql 23 (.slice a n c) (.slice none n' c')).run Tryd.prog w = .ok (.bool a.isNone) w := fun w a n c n' c' => Lib.run_eql_slice_nil w _ _ a n c n' c' Tryd.underlying23
  cases a with
  | none =>
    have hn0 : n = 0 := by
      rcases Nat.eq_zero_or_pos n with h0 | h0
      · exact h0
      · exact absurd (h.top h0) (by simp)
    go_enter Tryd.func8, Tryd.ntmps8
    go_wp2
    go_ret
    subst hn0
    exact ⟨none, 0, 0, 0, rfl, ⟨fun h => absurd h (Nat.lt_irrefl _), fun r hr => absurd hr (Nat.not_lt_zero _)⟩, Below.refl _ _⟩
  | some ga =>
  have hmk := run_make_row' (P := Tryd.prog) 23 5 (.int .u8 0) 1 Tryd.underlying23 info5 rfl .i64 .i64 n (by omega) (by omega)
  go_enter Tryd.func8, Tryd.ntmps8
  go_wp2
  clear hmk q22
  go_loopg [4] n (fun m i wr => ∃ k : Nat, k ≤ n ∧ m = n - k ∧ i = .int .i64 k ∧ wr.rowIs w.heap.size 5 n (fun j => .int .u8 (if j < k then K j else 0)) ∧ Below w.heap.size w wr)
  case atStart => exact ⟨0, Nat.zero_le _, rfl, rfl, (World.rowIs_made w _ n 5).congr (fun j _ => by simp), (Below.refl _ _).alloc (Nat.le_refl _) _⟩
  case round =>
    obtain ⟨k, hk, rfl, rfl, hrow, hbel⟩ := hrel
    by_cases hlt : k < n
    · have hkz : (k : Int) < (n : Int) := by omega
      obtain rfl := Option.some.inj (h.top (by omega))
      have g0 : wr.cell? ⟨b, o + k, none⟩ = some (.int .u8 (K k)) := by rw [hbel.cell (p := ⟨b, o + k, none⟩) (World.block_lt_of_cell? _ _ (h.cell k hlt))]; exact h.cell k hlt
      have g1 : wr.cell? ⟨w.heap.size, k, none⟩ = some (.int .u8 0) := by rw [hrow.cell hlt, if_neg (by omega)]
      have g2 : wr.frozen? ⟨w.heap.size, k, none⟩ = false := hrow.frozen _
      go_wp2
      go_roundg (n - (k + 1))
      case measure => omega
      case rel =>
        refine ⟨k + 1, by omega, rfl, by go_num, (hrow.set _ _).congr (fun j hj => ?_), hbel.setCell (Nat.le_refl _) _⟩
        go_light
        by_cases e : j = k
        · subst e; rw [if_pos rfl, if_pos (by omega)]
        · rw [if_neg e]
          by_cases e2 : j < k
          · rw [if_pos e2, if_pos (by omega)]
          · rw [if_neg e2, if_neg (by omega)]
    · have hkz : ¬ (k : Int) < (n : Int) := by omega
      obtain rfl : k = n := by omega
      go_wp2
      go_ret
      exact ⟨_, w.heap.size, 0, _, rfl, ⟨fun _ => rfl, fun i hi => by rw [Nat.zero_add, hrow.cell hi, if_pos hi]⟩, hbel⟩

end Go.Proofs.Qxb6606006aDoor.Ix
