import Derived.Test.Qxb6606006aDoorRows
import Derived.WalkKit
import Derived.WalkLawsBesides
import Derived.WalkSpells
import Derived.Deep.LoopGhost
import Derived.Deep.OwnRows
import Derived.Deep.Light
import Derived.Lib.SliceRun
namespace Go.Proofs.Qxb6606006aDoor.Ix
open Go.RowKit
set_option linter.unusedVariables false

/-- Byte j of v. -/
def byteOf (v : Int) (j : Nat) : Int := v / 2 ^ (8 * j) % 256
def put8 (f : Nat → Int) (at_ : Nat) (v : Int) (p : Nat) : Int := if at_ ≤ p ∧ p < at_ + 8 then byteOf v (p - at_) else f p

def PutPost (g N : Nat) (f : Nat → Int) (w : World) (e : Ending) (w' : World) : Prop :=
  e = .returned (.tuple #[]) ∧ w'.rowIs g 5 N (fun p => .int .u8 (f p)) ∧ Below g w w' ∧ w'.heap.size = w.heap.size

set_option maxHeartbeats 400000 in
theorem put8_any (g N : Nat) (f : Nat → Int) (a v : Int) (w : World) (h : w.rowIs g 5 N (fun p => .int .u8 (f p))) (ha : 0 ≤ a) (haN : a + 8 ≤ N) (hN : N ≤ 1048576) (hv : 0 ≤ v) (hv2 : v ≤ 1048576) :
    Calls Tryd.prog 17 #[.slice (some ⟨g, 0, none⟩) N N, .int .i64 a, .int .u64 v] w fun e w' => PutPost g N (put8 f a.toNat v) w e w' := by
  go_enter Tryd.func17, Tryd.ntmps17
  go_wp2
  go_loopg [6] 8 (fun n i wr => ∃ k : Nat, k ≤ 8 ∧ n = 8 - k ∧ i = .int .i64 k ∧ wr.rowIs g 5 N (fun p => .int .u8 (if a.toNat ≤ p ∧ p < a.toNat + k then byteOf v (p - a.toNat) else f p)) ∧ Below g w wr ∧ wr.heap.size = w.heap.size)
  case atStart => exact ⟨0, Nat.zero_le _, rfl, rfl, h.congr (fun p _ => by rw [if_neg (by omega)]), Below.refl _ _, rfl⟩
  case round =>
    obtain ⟨k, hk, rfl, rfl, hrow, hbel, hsz⟩ := hrel
    by_cases hlt : k < 8
    · have hkz : (k : Int) < 8 := by omega
      have g1 : wr.cell? ⟨g, (a + ↑k).toNat, none⟩ = some (.int .u8 (f (a + ↑k).toNat)) := by rw [hrow.cell (by omega), if_neg (by omega)]
      have g2 : wr.frozen? ⟨g, (a + ↑k).toNat, none⟩ = false := hrow.frozen _
      go_wp2
      go_roundg (8 - (k + 1))
      case measure => omega
      case rel =>
        refine ⟨k + 1, by omega, rfl, by go_num, (hrow.set _ _).congr (fun p hp => ?_), hbel.setCell (Nat.le_refl _) _, by simpa [World.setCell] using hsz⟩
        go_light
        by_cases e : p = (a + ↑k).toNat
        · subst e
          rw [if_pos rfl, if_pos (by omega)]
          rw [show (a + ↑k).toNat - a.toNat = k by omega]
          rfl
        · rw [if_neg e]
          by_cases e2 : a.toNat ≤ p ∧ p < a.toNat + k
          · rw [if_pos e2, if_pos (by omega)]
          · rw [if_neg e2, if_neg (by omega)]
    · have hkz : ¬ (k : Int) < 8 := by omega
      obtain rfl : k = 8 := by omega
      go_wp2
      go_end0
      exact ⟨rfl, hrow, hbel, hsz⟩

/-- Byte j of the string s. -/
def byteAt (s : ByteArray) (j : Nat) : Int := if h : j < s.size then ((s[j]'h).toNat : Int) else 0
def puts (f : Nat → Int) (at_ : Nat) (s : ByteArray) (p : Nat) : Int := if at_ ≤ p ∧ p < at_ + s.size then byteAt s (p - at_) else f p

def PutsPost (g N : Nat) (r : Int) (f : Nat → Int) (w : World) (e : Ending) (w' : World) : Prop :=
  e = .returned (.int .i64 r) ∧ w'.rowIs g 5 N (fun p => .int .u8 (f p)) ∧ Below g w w' ∧ w'.heap.size = w.heap.size

set_option maxHeartbeats 400000 in
theorem puts_any (g N : Nat) (f : Nat → Int) (a : Int) (s : ByteArray) (w : World) (h : w.rowIs g 5 N (fun p => .int .u8 (f p))) (ha : 0 ≤ a) (haN : a + s.size ≤ N) (hN : N ≤ 1048576) :
    Calls Tryd.prog 18 #[.slice (some ⟨g, 0, none⟩) N N, .int .i64 a, .string s] w fun e w' => PutsPost g N (a + s.size) (puts f a.toNat s) w e w' := by
  go_enter Tryd.func18, Tryd.ntmps18
  go_wp2
  go_loopg [7] s.size (fun n i wr => ∃ k : Nat, k ≤ s.size ∧ n = s.size - k ∧ i = .int .i64 k ∧ wr.rowIs g 5 N (fun p => .int .u8 (if a.toNat ≤ p ∧ p < a.toNat + k then byteAt s (p - a.toNat) else f p)) ∧ Below g w wr ∧ wr.heap.size = w.heap.size)
  case atStart => exact ⟨0, Nat.zero_le _, rfl, rfl, h.congr (fun p _ => by rw [if_neg (by omega)]), Below.refl _ _, rfl⟩
  case round =>
    obtain ⟨k, hk, rfl, rfl, hrow, hbel, hsz⟩ := hrel
    by_cases hlt : k < s.size
    · have hkz : (k : Int) < (s.size : Int) := by omega
      have g1 : wr.cell? ⟨g, (a + ↑k).toNat, none⟩ = some (.int .u8 (f (a + ↑k).toNat)) := by rw [hrow.cell (by omega), if_neg (by omega)]
      have g2 : wr.frozen? ⟨g, (a + ↑k).toNat, none⟩ = false := hrow.frozen _
      go_wp2
      go_roundg (s.size - (k + 1))
      case measure => omega
      case rel =>
        refine ⟨k + 1, by omega, rfl, by go_num, (hrow.set _ _).congr (fun p hp => ?_), hbel.setCell (Nat.le_refl _) _, by simpa [World.setCell] using hsz⟩
        go_light
        by_cases e : p = (a + ↑k).toNat
        · subst e
          rw [if_pos rfl, if_pos (by omega)]
          rw [show (a + ↑k).toNat - a.toNat = k by omega]
          simp [byteAt, hlt]
        · rw [if_neg e]
          by_cases e2 : a.toNat ≤ p ∧ p < a.toNat + k
          · rw [if_pos e2, if_pos (by omega)]
          · rw [if_neg e2, if_neg (by omega)]
    · have hkz : ¬ (k : Int) < (s.size : Int) := by omega
      obtain rfl : k = s.size := by omega
      go_wp2
      go_ret
      exact ⟨rfl, hrow, hbel, hsz⟩

end Go.Proofs.Qxb6606006aDoor.Ix
