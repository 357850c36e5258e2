import Derived.Test.Qxb6608517aDoorRows
import Derived.WalkKit
import Derived.WalkLawsBesides
import Derived.WalkSpells
import Derived.Deep.LoopGhost
import Derived.Deep.OwnRows
import Derived.Deep.Light
import Derived.Carry
import Derived.MapKept
import Derived.ChangeMaps4
import Derived.Laws.CopyRow
import Derived.Lib.SliceRun
import Derived.BigQuiet
namespace Go.Proofs.Qxb6608517aDoor.Ob
open Go.RowKit
set_option linter.unusedVariables false
set_option linter.unusedSimpArgs false

/-- A slice of n strings. -/
structure IsStrs (w : World) (a : Option Addr) (b o n : Nat) (S : Nat → ByteArray) : Prop where
  top : 0 < n → a = some ⟨b, o, none⟩
  cell : ∀ i, i < n → w.cell? ⟨b, o + i, none⟩ = some (.string (S i))

theorem IsStrs.below {w w' : World} {a : Option Addr} {b o n : Nat} {S : Nat → ByteArray} (h : IsStrs w a b o n S) (hb : Below w.heap.size w w') : IsStrs w' a b o n S :=
  ⟨h.top, fun i hi => by rw [hb.cell (p := ⟨b, o + i, none⟩) (World.block_lt_of_cell? _ _ (h.cell i hi))]; exact h.cell i hi⟩

theorem info9 : (Tryd.prog.info? 9).map (fun i => (i.zero, i.size, i.bytes)) = some (some (.string ⟨#[]⟩), 1, 16) := by kernel_rfl
theorem info20 : (Tryd.prog.info? 20).map (fun i => (i.zero, i.size, i.bytes)) = some (some .nilIface, 1, 16) := by kernel_rfl

/-- A map of one entry. -/
def oneMap (s : ByteArray) (v : Value) : Obj := .map #[{ key := .string s, val := v, born := 0 }] 1

theorem run_make26 (w : World) : (Instr.makeMap 26 none).run Tryd.prog w = .ok (.map (some w.heap.size)) (w.alloc (.map #[] 0)) := rfl

theorem run_insert_new (w : World) (s : ByteArray) (v : Value) : (Instr.mapUpdate 26 (.map (some w.heap.size)) (.string s) v).run Tryd.prog (w.alloc (.map #[] 0)) = .ok () (w.alloc (oneMap s v)) := by
  have hb : (w.alloc (.map #[] 0)).heap[w.heap.size]? = some (.map #[] 0) := by
    show (w.heap.push _)[w.heap.size]? = _
    simp
  have hs : ({ (w.alloc (.map #[] 0)) with heap := (w.alloc (.map #[] 0)).heap.setIfInBounds w.heap.size (oneMap s v) } : World) = w.alloc (oneMap s v) := by
    have : (w.heap.push (.map #[] 0)).setIfInBounds w.heap.size (oneMap s v) = w.heap.push (oneMap s v) := by
      apply Array.ext_getElem?
      intro i
      rw [Array.getElem?_setIfInBounds, Array.getElem?_push, Array.getElem?_push]
      by_cases e : w.heap.size = i
      · subst e; simp
      · rw [if_neg e, if_neg (fun h => e h.symm), if_neg (fun h => e h.symm)]
    rw [show (w.alloc (.map #[] 0)).heap = w.heap.push (.map #[] 0) from rfl, this]
    rfl
  rw [← hs]
  simp [Instr.mapUpdate, run_underlying Tryd.underlying26, MapKept.run_getObj_map hb, MapKept.run_checkKey Tryd.underlying9 (k := .string s) (by simp [MapKept.IsKey]), MapKept.run_findKey Tryd.underlying9 (k := .string s) (l := []) (a := none) rfl, MapKept.run_setObj_map _ hb, Result.andThen, oneMap]

theorem run_look (w : World) (m : Nat) (s p : ByteArray) (v : Value) (hm : w.heap[m]? = some (oneMap s v)) : (Instr.lookup 26 (.map (some m)) (.string p) false).run Tryd.prog w = .ok (if p = s then v else .nilIface) w := by
  have hz : ∀ wx, (zeroValue 20).run Tryd.prog wx = .ok .nilIface wx := fun wx => by kernel_rfl
  by_cases e : p = s
  · subst e
    have hf : Instr.findNow .string (.string p) [{ key := .string p, val := v, born := 0 }] 0 = some (some (0, v)) := by
      have e : (p == p) = true := (MapKept.bytes_beq p p).2 rfl
      simp only [Instr.findNow, Instr.sameNow, e]
    simp [Instr.lookup, run_underlying Tryd.underlying26, MapKept.run_getObj_map hm, MapKept.run_checkKey Tryd.underlying9 (k := .string p) (by simp [MapKept.IsKey]), MapKept.run_findKey Tryd.underlying9 hf, Result.andThen]
  · have hf : Instr.findNow .string (.string p) [{ key := .string s, val := v, born := 0 }] 0 = some none := by
      have e : (p == s) = false := by
        rw [Bool.eq_false_iff]; exact fun h => e ((MapKept.bytes_beq p s).1 h)
      simp only [Instr.findNow, Instr.sameNow, e]
    simp [Instr.lookup, run_underlying Tryd.underlying26, MapKept.run_getObj_map hm, MapKept.run_checkKey Tryd.underlying9 (k := .string p) (by simp [MapKept.IsKey]), MapKept.run_findKey Tryd.underlying9 hf, Result.andThen, hz, e]

theorem heap_new (w : World) (o : Obj) : (w.alloc o).heap[w.heap.size]? = some o := by
  show (w.heap.push o)[w.heap.size]? = some o
  simp

/-- An object of one member: its map, and what lay before as it was. -/
def ObjPost (name : ByteArray) (v : Value) (w : World) (e : Ending) (w' : World) : Prop := ∃ m, e = .returned (.map (some m)) ∧ w'.heap[m]? = some (oneMap name v) ∧ Below w.heap.size w w'

/-- The array of n strings as interface values. -/
def ObjsPost (name : ByteArray) (n : Nat) (T : Nat → Value) (w : World) (e : Ending) (w' : World) : Prop := ∃ m g, e = .returned (.map (some m)) ∧ w'.heap[m]? = some (oneMap name (.iface 49 (.slice (some ⟨g, 0, none⟩) n n))) ∧ w'.rowIs g 20 n T ∧ Below w.heap.size w w'

set_option maxHeartbeats 1000000 in
theorem objs_any (name : ByteArray) (a : Option Addr) (b o n c : Nat) (S : Nat → ByteArray) (w : World) (h : IsStrs w a b o n S) (hn : n ≤ 1048576) :
    Calls Tryd.prog 12 #[.string name, .slice a n c] w fun e w' => ObjsPost name n (fun i => .iface 9 (.string (S i))) w e w' := by
  have hmk := run_make_row' (P := Tryd.prog) 49 20 .nilIface 16 Tryd.underlying49 info20 rfl .i64 .i64 n (by omega) (by omega)
  go_enter Tryd.func12, Tryd.ntmps12
  go_wp2
  clear hmk
  go_loopg [12] n (fun m i wr => ∃ k : Nat, k ≤ n ∧ m = n - k ∧ i = .int .i64 k ∧ wr.rowIs w.heap.size 20 n (fun j => if j < k then .iface 9 (.string (S j)) else .nilIface) ∧ Below w.heap.size w wr)
  case atStart => exact ⟨0, Nat.zero_le _, rfl, rfl, (World.rowIs_made w _ n 20).congr (fun j _ => by simp), (Below.refl _ _).alloc (Nat.le_refl _) _⟩
  case round =>
    obtain ⟨k, hk, rfl, rfl, hrow, hbel⟩ := hrel
    by_cases hlt : k < n
    · have hkz : (k : Int) < (n : Int) := by omega
      obtain rfl := h.top (by omega)
      have g0 : wr.cell? ⟨b, o + k, none⟩ = some (.string (S k)) := by rw [hbel.cell (p := ⟨b, o + k, none⟩) (World.block_lt_of_cell? _ _ (h.cell k hlt))]; exact h.cell k hlt
      have g1 : wr.cell? ⟨w.heap.size, k, none⟩ = some .nilIface := by rw [hrow.cell hlt, if_neg (by omega)]
      have g2 : wr.frozen? ⟨w.heap.size, k, none⟩ = false := hrow.frozen _
      go_wp2
      go_roundg (n - (k + 1))
      case measure => omega
      case rel =>
        refine ⟨k + 1, by omega, rfl, by go_num, (hrow.set _ _).congr (fun j hj => ?_), hbel.setCell (Nat.le_refl _) _⟩
        go_light
        by_cases e : j = k
        · subst e; rw [if_pos rfl, if_pos (by omega)]
        · rw [if_neg e]
          by_cases e2 : j < k
          · rw [if_pos e2, if_pos (by omega)]
          · rw [if_neg e2, if_neg (by omega)]
    · have hkz : ¬ (k : Int) < (n : Int) := by omega
      obtain rfl : k = n := by omega
      have hm := run_make26 wr
      have hi := fun v => run_insert_new wr name v
      go_wp2
      go_ret
      refine ⟨wr.heap.size, w.heap.size, rfl, heap_new _ _, (hrow.congr (fun j hj => by rw [if_pos hj])).alloc _, hbel.alloc hbel.size _⟩

def AddPost (w : World) (e : Ending) (w' : World) : Prop := ∃ r : Int, e = .returned (.int .i64 r) ∧ w' = w ∧ 0 ≤ r ∧ r ≤ 4194304

set_option maxHeartbeats 1000000 in
theorem add_any (x : Int) (a : Option Addr) (b o n c : Nat) (S : Nat → ByteArray) (w : World) (h : IsStrs w a b o n S) (hn : n ≤ 1048576) (hs : ∀ i, i < n → (S i).size ≤ 1048576) (x0 : 0 ≤ x) (x1 : x ≤ 1048576) :
    Calls Tryd.prog 11 #[.int .i64 x, .slice a n c] w fun e w' => AddPost w e w' := by
  go_enter Tryd.func11, Tryd.ntmps11
  go_wp2
  go_loopg [0, 5] n (fun m t i wr => ∃ (k : Nat) (y : Int), k ≤ n ∧ m = n - k ∧ t = .int .i64 y ∧ i = .int .i64 k ∧ 0 ≤ y ∧ y ≤ 1048576 ∧ wr = w)
  case atStart => exact ⟨0, x, Nat.zero_le _, rfl, rfl, rfl, x0, x1, rfl⟩
  case round =>
    obtain ⟨k, y, hk, rfl, rfl, rfl, y0, y1, hwr⟩ := hrel
    obtain rfl := hwr.symm
    clear hwr
    by_cases hlt : k < n
    · have hkz : (k : Int) < (n : Int) := by omega
      obtain rfl := h.top (by omega)
      have g0 := h.cell k hlt
      have z := hs k hlt
      have zz : ¬ (1048576 : Int) < ((S k).size : Int) := by omega
      by_cases hb : (1048576 : Int) < y + (8 + (S k).size)
      · go_wp2
        go_ret
        exact ⟨_, rfl, rfl, by omega, by omega⟩
      · go_wp2
        go_roundg (n - (k + 1))
        case measure => omega
        case rel => exact ⟨k + 1, y + (8 + (S k).size), by omega, rfl, by go_num, by go_num, by omega, by omega, rfl⟩
    · have hkz : ¬ (k : Int) < (n : Int) := by omega
      go_wp2
      go_ret
      exact ⟨_, rfl, rfl, by omega, by omega⟩

set_option maxHeartbeats 1000000 in
theorem same_any (a1 : Option Addr) (b1 o1 c1 : Nat) (a2 : Option Addr) (b2 o2 c2 : Nat) (n : Nat) (S : Nat → ByteArray) (w : World) (h1 : IsStrs w a1 b1 o1 n S) (h2 : IsStrs w a2 b2 o2 n S) (hn : n ≤ 1048576) :
    Calls Tryd.prog 14 #[.slice a1 n c1, .slice a2 n c2] w fun e w' => e = .returned (.bool true) ∧ Below w.heap.size w w' := by
  go_enter Tryd.func14, Tryd.ntmps14
  go_wp2
  go_loopg [5] n (fun m i wr => ∃ k : Nat, k ≤ n ∧ m = n - k ∧ i = .int .i64 k ∧ Below w.heap.size w wr)
  case atStart => exact ⟨0, Nat.zero_le _, rfl, rfl, Below.refl _ _⟩
  case round =>
    obtain ⟨k, hk, rfl, rfl, hbel⟩ := hrel
    by_cases hlt : k < n
    · have hkz : (k : Int) < (n : Int) := by omega
      obtain rfl := h1.top (by omega)
      obtain rfl := h2.top (by omega)
      have g1 := (h1.below hbel).cell k hlt
      have g2 := (h2.below hbel).cell k hlt
      go_wp2
      go_quiet (fail)
      go_wp2
      go_roundg (n - (k + 1))
      case measure => omega
      case rel => exact ⟨k + 1, by omega, rfl, by go_num, below_drewN hbel _⟩
    · have hkz : ¬ (k : Int) < (n : Int) := by omega
      go_wp2
      go_ret
      exact ⟨rfl, hbel⟩

end Go.Proofs.Qxb6608517aDoor.Ob
