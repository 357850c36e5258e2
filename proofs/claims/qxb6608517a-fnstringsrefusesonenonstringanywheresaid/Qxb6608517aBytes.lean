import Derived.Test.Qxb6608517aObj
namespace Go.Proofs.Qxb6608517a.Ob
open Go.RowKit
set_option linter.unusedVariables false
set_option linter.unusedSimpArgs false

def BytesPost13 (s0 : ByteArray) (n1 : Nat) (S1 : Nat → ByteArray) (s2 : ByteArray) (n3 : Nat) (S3 : Nat → ByteArray) (w : World) (e : Ending) (w' : World) : Prop := ∃ b : Bool, e = .returned (.bool b) ∧ w' = w ∧ (b = true → s0.size ≤ 1048576 ∧ n1 ≤ 1048576 ∧ (∀ i, i < n1 → (S1 i).size ≤ 1048576) ∧ s2.size ≤ 1048576 ∧ n3 ≤ 1048576 ∧ (∀ i, i < n3 → (S3 i).size ≤ 1048576))

set_option maxHeartbeats 2000000 in
set_option maxRecDepth 100000 in
theorem bytes13_any (s0 : ByteArray) (a1 : Option Addr) (b1 o1 n1 c1 : Nat) (S1 : Nat → ByteArray) (s2 : ByteArray) (a3 : Option Addr) (b3 o3 n3 c3 : Nat) (S3 : Nat → ByteArray) (w : World) (hz0 : s0.size ≤ maxLen) (h1 : IsStrs w a1 b1 o1 n1 S1) (hn1 : n1 ≤ maxLen) (hs1 : ∀ i, i < n1 → (S1 i).size ≤ maxLen) (hz2 : s2.size ≤ maxLen) (h3 : IsStrs w a3 b3 o3 n3 S3) (hn3 : n3 ≤ maxLen) (hs3 : ∀ i, i < n3 → (S3 i).size ≤ maxLen) :
    Calls Try.prog 13 #[.string s0, .slice a1 n1 c1, .string s2, .slice a3 n3 c3] w fun e w' => BytesPost13 s0 n1 S1 s2 n3 S3 w e w' := by
  unfold maxLen at hz0
  unfold maxLen at hn1 hs1
  unfold maxLen at hz2
  unfold maxLen at hn3 hs3
  go_enter Try.func13, Try.ntmps13
  by_cases t0 : (1048576 : Int) < (s0.size : Int)
  · go_wp2
    go_ret
    exact ⟨false, rfl, rfl, by simp⟩
  by_cases t1 : (1048576 : Int) < (n1 : Int)
  · go_wp2
    go_ret
    exact ⟨false, rfl, rfl, by simp⟩
  by_cases u1 : (1048576 : Int) < (s0.size : Int) + (n1 : Int)
  · go_wp2
    go_ret
    exact ⟨false, rfl, rfl, by simp⟩
  go_wp2
  go_loop [9, 10] (fun z i => ∃ (k : Nat) (y : Int), k ≤ n1 ∧ 0 ≤ y ∧ y ≤ 1048576 ∧ i = .int .i64 k ∧ z = .int .i64 y ∧ ∀ r, r < k → (S1 r).size ≤ 1048576) (fun _ i => n1 - (intOf i).toNat)
  case atStart => exact ⟨0, _, Nat.zero_le _, by omega, by first | assumption | omega, rfl, rfl, fun r hr => absurd hr (Nat.not_lt_zero _)⟩
  case round =>
    obtain ⟨k1, y1, hk1, hy1, hyy1, rfl, rfl, hall1⟩ := hrel
    have H1 : Hid (∀ r, r < k1 → (S1 r).size ≤ 1048576) := hall1
    clear hall1
    by_cases hlt1 : k1 < n1
    · obtain rfl := h1.top (by omega)
      have hc := h1.cell k1 hlt1
      have hL := hs1 k1 hlt1
      have hkz : (k1 : Int) < (n1 : Int) := by omega
      go_wp2
      · go_ret
        exact ⟨false, rfl, rfl, by simp⟩
      · go_ret
        exact ⟨false, rfl, rfl, by simp⟩
      · go_round
        case rel => exact ⟨k1 + 1, _, by omega, by omega, by assumption, by go_num, rfl, fun r hr => by
          by_cases e : r = k1
          · subst e; omega
          · exact H1.out r (by omega)⟩
        case measure => simp [intOf]; omega
    have hkz1 : ¬ (k1 : Int) < (n1 : Int) := by omega
    have HF1 : Hid (∀ r, r < n1 → (S1 r).size ≤ 1048576) := fun r hr => H1.out r (by omega)
    clear H1 h1 hs1
    by_cases t2 : (1048576 : Int) < (s2.size : Int)
    · go_wp2
      go_ret
      exact ⟨false, rfl, rfl, by simp⟩
    by_cases u2 : (1048576 : Int) < y1 + (s2.size : Int)
    · go_wp2
      go_ret
      exact ⟨false, rfl, rfl, by simp⟩
    by_cases t3 : (1048576 : Int) < (n3 : Int)
    · go_wp2
      go_ret
      exact ⟨false, rfl, rfl, by simp⟩
    by_cases u3 : (1048576 : Int) < y1 + (s2.size : Int) + (n3 : Int)
    · go_wp2
      go_ret
      exact ⟨false, rfl, rfl, by simp⟩
    go_wp2
    go_loop [9, 11] (fun z i => ∃ (k : Nat) (y : Int), k ≤ n3 ∧ 0 ≤ y ∧ y ≤ 1048576 ∧ i = .int .i64 k ∧ z = .int .i64 y ∧ ∀ r, r < k → (S3 r).size ≤ 1048576) (fun _ i => n3 - (intOf i).toNat)
    case atStart => exact ⟨0, _, Nat.zero_le _, by omega, by first | assumption | omega, rfl, rfl, fun r hr => absurd hr (Nat.not_lt_zero _)⟩
    case round =>
      obtain ⟨k3, y3, hk3, hy3, hyy3, rfl, rfl, hall3⟩ := hrel
      have H3 : Hid (∀ r, r < k3 → (S3 r).size ≤ 1048576) := hall3
      clear hall3
      by_cases hlt3 : k3 < n3
      · obtain rfl := h3.top (by omega)
        have hc := h3.cell k3 hlt3
        have hL := hs3 k3 hlt3
        have hkz : (k3 : Int) < (n3 : Int) := by omega
        go_wp2
        · go_ret
          exact ⟨false, rfl, rfl, by simp⟩
        · go_ret
          exact ⟨false, rfl, rfl, by simp⟩
        · go_round
          case rel => exact ⟨k3 + 1, _, by omega, by omega, by assumption, by go_num, rfl, fun r hr => by
            by_cases e : r = k3
            · subst e; omega
            · exact H3.out r (by omega)⟩
          case measure => simp [intOf]; omega
      have hkz3 : ¬ (k3 : Int) < (n3 : Int) := by omega
      have HF3 : Hid (∀ r, r < n3 → (S3 r).size ≤ 1048576) := fun r hr => H3.out r (by omega)
      clear H3 h3 hs3
      go_wp2
      go_ret
      exact ⟨true, rfl, rfl, fun _ => ⟨by omega, by omega, HF1.out, by omega, by omega, HF3.out⟩⟩

def BytesPost5 (s0 : ByteArray) (s1 : ByteArray) (s2 : ByteArray) (n3 : Nat) (S3 : Nat → ByteArray) (s4 : ByteArray) (w : World) (e : Ending) (w' : World) : Prop := ∃ b : Bool, e = .returned (.bool b) ∧ w' = w ∧ (b = true → s0.size ≤ 1048576 ∧ s1.size ≤ 1048576 ∧ s2.size ≤ 1048576 ∧ n3 ≤ 1048576 ∧ (∀ i, i < n3 → (S3 i).size ≤ 1048576) ∧ s4.size ≤ 1048576)

set_option maxHeartbeats 2000000 in
set_option maxRecDepth 100000 in
theorem bytes5_any (s0 : ByteArray) (s1 : ByteArray) (s2 : ByteArray) (a3 : Option Addr) (b3 o3 n3 c3 : Nat) (S3 : Nat → ByteArray) (s4 : ByteArray) (w : World) (hz0 : s0.size ≤ maxLen) (hz1 : s1.size ≤ maxLen) (hz2 : s2.size ≤ maxLen) (h3 : IsStrs w a3 b3 o3 n3 S3) (hn3 : n3 ≤ maxLen) (hs3 : ∀ i, i < n3 → (S3 i).size ≤ maxLen) (hz4 : s4.size ≤ maxLen) :
    Calls Try.prog 5 #[.string s0, .string s1, .string s2, .slice a3 n3 c3, .string s4] w fun e w' => BytesPost5 s0 s1 s2 n3 S3 s4 w e w' := by
  unfold maxLen at hz0
  unfold maxLen at hz1
  unfold maxLen at hz2
  unfold maxLen at hn3 hs3
  unfold maxLen at hz4
  go_enter Try.func5, Try.ntmps5
  by_cases t0 : (1048576 : Int) < (s0.size : Int)
  · go_wp2
    go_ret
    exact ⟨false, rfl, rfl, by simp⟩
  by_cases t1 : (1048576 : Int) < (s1.size : Int)
  · go_wp2
    go_ret
    exact ⟨false, rfl, rfl, by simp⟩
  by_cases u1 : (1048576 : Int) < (s0.size : Int) + (s1.size : Int)
  · go_wp2
    go_ret
    exact ⟨false, rfl, rfl, by simp⟩
  by_cases t2 : (1048576 : Int) < (s2.size : Int)
  · go_wp2
    go_ret
    exact ⟨false, rfl, rfl, by simp⟩
  by_cases u2 : (1048576 : Int) < (s0.size : Int) + (s1.size : Int) + (s2.size : Int)
  · go_wp2
    go_ret
    exact ⟨false, rfl, rfl, by simp⟩
  by_cases t3 : (1048576 : Int) < (n3 : Int)
  · go_wp2
    go_ret
    exact ⟨false, rfl, rfl, by simp⟩
  by_cases u3 : (1048576 : Int) < (s0.size : Int) + (s1.size : Int) + (s2.size : Int) + (n3 : Int)
  · go_wp2
    go_ret
    exact ⟨false, rfl, rfl, by simp⟩
  go_wp2
  go_loop [11, 12] (fun z i => ∃ (k : Nat) (y : Int), k ≤ n3 ∧ 0 ≤ y ∧ y ≤ 1048576 ∧ i = .int .i64 k ∧ z = .int .i64 y ∧ ∀ r, r < k → (S3 r).size ≤ 1048576) (fun _ i => n3 - (intOf i).toNat)
  case atStart => exact ⟨0, _, Nat.zero_le _, by omega, by first | assumption | omega, rfl, rfl, fun r hr => absurd hr (Nat.not_lt_zero _)⟩
  case round =>
    obtain ⟨k3, y3, hk3, hy3, hyy3, rfl, rfl, hall3⟩ := hrel
    have H3 : Hid (∀ r, r < k3 → (S3 r).size ≤ 1048576) := hall3
    clear hall3
    by_cases hlt3 : k3 < n3
    · obtain rfl := h3.top (by omega)
      have hc := h3.cell k3 hlt3
      have hL := hs3 k3 hlt3
      have hkz : (k3 : Int) < (n3 : Int) := by omega
      go_wp2
      · go_ret
        exact ⟨false, rfl, rfl, by simp⟩
      · go_ret
        exact ⟨false, rfl, rfl, by simp⟩
      · go_round
        case rel => exact ⟨k3 + 1, _, by omega, by omega, by assumption, by go_num, rfl, fun r hr => by
          by_cases e : r = k3
          · subst e; omega
          · exact H3.out r (by omega)⟩
        case measure => simp [intOf]; omega
    have hkz3 : ¬ (k3 : Int) < (n3 : Int) := by omega
    have HF3 : Hid (∀ r, r < n3 → (S3 r).size ≤ 1048576) := fun r hr => H3.out r (by omega)
    clear H3 h3 hs3
    by_cases t4 : (1048576 : Int) < (s4.size : Int)
    · go_wp2
      go_ret
      exact ⟨false, rfl, rfl, by simp⟩
    by_cases u4 : (1048576 : Int) < y3 + (s4.size : Int)
    · go_wp2
      go_ret
      exact ⟨false, rfl, rfl, by simp⟩
    go_wp2
    go_ret
    exact ⟨true, rfl, rfl, fun _ => ⟨by omega, by omega, by omega, by omega, HF3.out, by omega⟩⟩

end Go.Proofs.Qxb6608517a.Ob
