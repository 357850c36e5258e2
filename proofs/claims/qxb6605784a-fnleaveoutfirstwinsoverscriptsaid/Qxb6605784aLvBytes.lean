import Derived.Test.Qxb6605784aRows
import Derived.WalkKit
import Derived.ProofKit
import Derived.WalkLawsBesides
import Derived.WalkSpells
import Derived.Deep.LoopGhost
import Derived.Deep.OwnRows
import Derived.Deep.Light
import Derived.Deep.MidRow
import Derived.Deep.WholeRow
import Derived.Deep.QuietTactic
import Derived.Lib.QuietBelow
import Derived.Lib.SliceRun
namespace Go.Proofs.Qxb6605784a.Leave
open Go.RowKit
set_option linter.unusedVariables false

def BytesPost (w : World) (e : Ending) (w' : World) : Prop := ∃ b : Bool, e = .returned (.bool b) ∧ Below w.heap.size w w'

set_option maxHeartbeats 2000000 in
set_option maxRecDepth 100000 in
theorem bytes_any (A0 A1 A3 A4 A5 A6 A8 A9 : Array Value) (a2 a7 : Option Addr) (n2 c2 n7 c7 : Nat) (w : World) (h2 : n2 ≤ maxLen) (h7 : n7 ≤ maxLen) :
    Calls Try.prog 9 #[.agg A0, .agg A1, .slice a2 n2 c2, .agg A3, .agg A4, .agg A5, .agg A6, .slice a7 n7 c7, .agg A8, .agg A9] w fun e w' => BytesPost w e w' := by
  unfold maxLen at h2 h7
  have hb : Below w.heap.size w ((((((((w.alloc (.cells A0 28)).alloc (.cells A1 29)).alloc (.cells A3 28)).alloc (.cells A4 28)).alloc (.cells A5 28)).alloc (.cells A6 29)).alloc (.cells A8 28)).alloc (.cells A9 28)) := by
    refine (((((((((Below.refl _ _).alloc (Nat.le_refl _) _).alloc ?_ _).alloc ?_ _).alloc ?_ _).alloc ?_ _).alloc ?_ _).alloc ?_ _).alloc ?_ _) <;> simp <;> omega
  have hb : Hid (Below w.heap.size w ((((((((w.alloc (.cells A0 28)).alloc (.cells A1 29)).alloc (.cells A3 28)).alloc (.cells A4 28)).alloc (.cells A5 28)).alloc (.cells A6 29)).alloc (.cells A8 28)).alloc (.cells A9 28))) := hb
  go_enter Try.func9, Try.ntmps9
  by_cases hb0 : 1048576 < n2
  · have hbz0 : (1048576 : Int) < (n2 : Int) := by omega
    go_wp2
    go_ret
    exact ⟨false, rfl, hb.out⟩
  have hbz0 : ¬ (1048576 : Int) < (n2 : Int) := by omega
  go_wp2
  go_loop [21, 22] (fun z i => ∃ (k : Nat) (y : Int), k ≤ n2 ∧ 0 ≤ y ∧ y ≤ 1048576 ∧ i = .int .i64 k ∧ z = .int .i64 y) (fun _ i => n2 - (intOf i).toNat)
  case atStart => exact ⟨0, _, Nat.zero_le _, by omega, by first | assumption | omega, rfl, rfl⟩
  case round =>
    obtain ⟨k, y, hk, hy, hyy, rfl, rfl⟩ := hrel
    by_cases hlt : k < n2
    · have hkz : (k : Int) < (n2 : Int) := by omega
      go_wp2
      · go_ret
        exact ⟨false, rfl, hb.out⟩
      · go_round
        case rel => exact ⟨k + 1, _, by omega, by omega, by assumption, by go_num, rfl⟩
        case measure => simp [intOf]; omega
    have hkz : ¬ (k : Int) < (n2 : Int) := by omega
    by_cases hb1 : 1048576 < n7
    · have hbz1 : (1048576 : Int) < (n7 : Int) := by omega
      go_wp2
      go_ret
      exact ⟨false, rfl, hb.out⟩
    have hbz1 : ¬ (1048576 : Int) < (n7 : Int) := by omega
    go_wp2
    · go_ret
      exact ⟨false, rfl, hb.out⟩
    go_loop [21, 23] (fun z i => ∃ (k : Nat) (y : Int), k ≤ n7 ∧ 0 ≤ y ∧ y ≤ 1048576 ∧ i = .int .i64 k ∧ z = .int .i64 y) (fun _ i => n7 - (intOf i).toNat)
    case atStart => exact ⟨0, _, Nat.zero_le _, by omega, by first | assumption | omega, rfl, rfl⟩
    case round =>
      obtain ⟨k1, y1, hk1, hy1, hyy1, rfl, rfl⟩ := hrel
      by_cases hlt1 : k1 < n7
      · have hkz1 : (k1 : Int) < (n7 : Int) := by omega
        go_wp2
        · go_ret
          exact ⟨false, rfl, hb.out⟩
        · go_round
          case rel => exact ⟨k1 + 1, _, by omega, by omega, by assumption, by go_num, rfl⟩
          case measure => simp [intOf]; omega
      have hkz1 : ¬ (k1 : Int) < (n7 : Int) := by omega
      go_wp2
      go_ret
      exact ⟨true, rfl, hb.out⟩

def FitPost (n m : Nat) (w : World) (e : Ending) (w' : World) : Prop := w' = w ∧ ∃ b : Bool, e = .returned (.bool b) ∧ (b = true → n ≤ 32768 ∧ m ≤ 32768)

set_option maxHeartbeats 2000000 in
theorem fit_any (a b : Option Addr) (n c m d : Nat) (w : World) :
    Calls Try.prog 10 #[.slice a n c, .slice b m d] w fun e w' => FitPost n m w e w' := by
  go_enter Try.func10, Try.ntmps10
  by_cases h0 : 32768 < n
  · have h0z : (32768 : Int) < (n : Int) := by omega
    go_wp2
    go_ret
    exact ⟨rfl, false, rfl, by simp⟩
  have h0z : ¬ (32768 : Int) < (n : Int) := by omega
  by_cases h1 : 32768 < m
  · have h1z : (32768 : Int) < (m : Int) := by omega
    go_wp2
    go_ret
    exact ⟨rfl, false, rfl, by simp⟩
  have h1z : ¬ (32768 : Int) < (m : Int) := by omega
  go_wp2
  go_ret
  exact ⟨rfl, _, rfl, fun _ => by omega⟩

end Go.Proofs.Qxb6605784a.Leave
