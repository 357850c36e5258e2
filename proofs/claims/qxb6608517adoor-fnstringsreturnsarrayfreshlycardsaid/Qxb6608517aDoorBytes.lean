import Derived.Test.Qxb6608517aDoorObj
namespace Go.Proofs.Qxb6608517aDoor.Ob
open Go.RowKit
set_option linter.unusedVariables false
set_option linter.unusedSimpArgs false

def BytesPost10 (s0 : ByteArray) (n1 : Nat) (S1 : Nat → ByteArray) (s2 : ByteArray) (w : World) (e : Ending) (w' : World) : Prop := ∃ b : Bool, e = .returned (.bool b) ∧ w' = w ∧ (b = true → s0.size ≤ 1048576 ∧ n1 ≤ 1048576 ∧ (∀ i, i < n1 → (S1 i).size ≤ 1048576) ∧ s2.size ≤ 1048576)

set_option maxHeartbeats 2000000 in
set_option maxRecDepth 100000 in
theorem bytes10_any (s0 : ByteArray) (a1 : Option Addr) (b1 o1 n1 c1 : Nat) (S1 : Nat → ByteArray) (s2 : ByteArray) (w : World) (hz0 : s0.size ≤ maxLen) (h1 : IsStrs w a1 b1 o1 n1 S1) (hn1 : n1 ≤ maxLen) (hs1 : ∀ i, i < n1 → (S1 i).size ≤ maxLen) (hz2 : s2.size ≤ maxLen) :
    Calls Tryd.prog 10 #[.string s0, .slice a1 n1 c1, .string s2] w fun e w' => BytesPost10 s0 n1 S1 s2 w e w' := by
  unfold maxLen at hz0
  unfold maxLen at hn1 hs1
  unfold maxLen at hz2
  go_enter Tryd.func10, Tryd.ntmps10
  by_cases t0 : (1048576 : Int) < (s0.size : Int)
  · go_wp2
    go_ret
    exact ⟨false, rfl, rfl, by simp⟩
  by_cases t1 : (1048576 : Int) < (n1 : Int)
  · go_wp2
    go_ret
    exact ⟨false, rfl, rfl, by simp⟩
  by_cases u1 : (1048576 : Int) < (s0.size : Int) + (n1 : Int)
  · go_wp2
    go_ret
    exact ⟨false, rfl, rfl, by simp⟩
  go_wp2
  go_loop [7, 8] (fun z i => ∃ (k : Nat) (y : Int), k ≤ n1 ∧ 0 ≤ y ∧ y ≤ 1048576 ∧ i = .int .i64 k ∧ z = .int .i64 y ∧ ∀ r, r < k → (S1 r).size ≤ 1048576) (fun _ i => n1 - (intOf i).toNat)
  case atStart => exact ⟨0, _, Nat.zero_le _, by omega, by first | assumption | omega, rfl, rfl, fun r hr => absurd hr (Nat.not_lt_zero _)⟩
  case round =>
    obtain ⟨k1, y1, hk1, hy1, hyy1, rfl, rfl, hall1⟩ := hrel
    have H1 : Hid (∀ r, r < k1 → (S1 r).size ≤ 1048576) := hall1
    clear hall1
    by_cases hlt1 : k1 < n1
    · obtain rfl := h1.top (by omega)
      have hc := h1.cell k1 hlt1
      have hL := hs1 k1 hlt1
      have hkz : (k1 : Int) < (n1 : Int) := by omega
      go_wp2
      · go_ret
        exact ⟨false, rfl, rfl, by simp⟩
      · go_ret
        exact ⟨false, rfl, rfl, by simp⟩
      · go_round
        case rel => exact ⟨k1 + 1, _, by omega, by omega, by assumption, by go_num, rfl, fun r hr => by
          by_cases e : r = k1
          · subst e; omega
          · exact H1.out r (by omega)⟩
        case measure => simp [intOf]; omega
    have hkz1 : ¬ (k1 : Int) < (n1 : Int) := by omega
    have HF1 : Hid (∀ r, r < n1 → (S1 r).size ≤ 1048576) := fun r hr => H1.out r (by omega)
    clear H1 h1 hs1
    by_cases t2 : (1048576 : Int) < (s2.size : Int)
    · go_wp2
      go_ret
      exact ⟨false, rfl, rfl, by simp⟩
    by_cases u2 : (1048576 : Int) < y1 + (s2.size : Int)
    · go_wp2
      go_ret
      exact ⟨false, rfl, rfl, by simp⟩
    go_wp2
    go_ret
    exact ⟨true, rfl, rfl, fun _ => ⟨by omega, by omega, HF1.out, by omega⟩⟩

end Go.Proofs.Qxb6608517aDoor.Ob
