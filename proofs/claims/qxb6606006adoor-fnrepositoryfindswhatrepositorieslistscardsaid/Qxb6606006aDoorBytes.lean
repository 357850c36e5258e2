import Derived.Test.Qxb6606006aDoorBase
namespace Go.Proofs.Qxb6606006aDoor.Ix
open Go.RowKit
set_option linter.unusedVariables false

def BytesPost5 (n0 : Nat) (S0 : Nat → ByteArray) (n1 : Nat) (S1 : Nat → ByteArray) (n2 : Nat) (S2 : Nat → ByteArray) (n3 : Nat) (w : World) (e : Ending) (w' : World) : Prop := ∃ b : Bool, e = .returned (.bool b) ∧ w' = w ∧ (b = true → n0 ≤ 1048576 ∧ (∀ i, i < n0 → (S0 i).size ≤ 1048576) ∧ n1 ≤ 1048576 ∧ (∀ i, i < n1 → (S1 i).size ≤ 1048576) ∧ n2 ≤ 1048576 ∧ (∀ i, i < n2 → (S2 i).size ≤ 1048576) ∧ n3 ≤ 1048576)

set_option maxHeartbeats 2000000 in
set_option maxRecDepth 100000 in
theorem bytes5_any (a0 : Option Addr) (b0 o0 n0 c0 : Nat) (S0 : Nat → ByteArray) (a1 : Option Addr) (b1 o1 n1 c1 : Nat) (S1 : Nat → ByteArray) (a2 : Option Addr) (b2 o2 n2 c2 : Nat) (S2 : Nat → ByteArray) (a3 : Option Addr) (n3 c3 : Nat) (w : World) (h0 : IsStrs w a0 b0 o0 n0 S0) (hn0 : n0 ≤ maxLen) (hs0 : ∀ i, i < n0 → (S0 i).size ≤ maxLen) (h1 : IsStrs w a1 b1 o1 n1 S1) (hn1 : n1 ≤ maxLen) (hs1 : ∀ i, i < n1 → (S1 i).size ≤ maxLen) (h2 : IsStrs w a2 b2 o2 n2 S2) (hn2 : n2 ≤ maxLen) (hs2 : ∀ i, i < n2 → (S2 i).size ≤ maxLen) (hn3 : n3 ≤ maxLen) :
    Calls Tryd.prog 5 #[.slice a0 n0 c0, .slice a1 n1 c1, .slice a2 n2 c2, .slice a3 n3 c3] w fun e w' => BytesPost5 n0 S0 n1 S1 n2 S2 n3 w e w' := by
  unfold maxLen at hn0 hs0
  unfold maxLen at hn1 hs1
  unfold maxLen at hn2 hs2
  unfold maxLen at hn3
  go_enter Tryd.func5, Tryd.ntmps5
  by_cases hb0 : 1048576 < n0
  · have hbz0 : (1048576 : Int) < (n0 : Int) := by omega
    go_wp2
    go_ret
    exact ⟨false, rfl, rfl, by simp⟩
  have hbz0 : ¬ (1048576 : Int) < (n0 : Int) := by omega
  go_wp2
  go_loop [9, 10] (fun z i => ∃ (k : Nat) (y : Int), k ≤ n0 ∧ 0 ≤ y ∧ y ≤ 1048576 ∧ i = .int .i64 k ∧ z = .int .i64 y ∧ ∀ r, r < k → (S0 r).size ≤ 1048576) (fun _ i => n0 - (intOf i).toNat)
  case atStart => exact ⟨0, _, Nat.zero_le _, by omega, by first | assumption | omega, rfl, rfl, fun r hr => absurd hr (Nat.not_lt_zero _)⟩
  case round =>
    obtain ⟨k0, y0, hk0, hy0, hyy0, rfl, rfl, hall0⟩ := hrel
    have H0 : Hid (∀ r, r < k0 → (S0 r).size ≤ 1048576) := hall0
    clear hall0
    by_cases hlt0 : k0 < n0
    · obtain rfl := h0.top (by omega)
      have hc := h0.cell k0 hlt0
      have hL := hs0 k0 hlt0
      have hkz : (k0 : Int) < (n0 : Int) := by omega
      go_wp2
      · go_ret
        exact ⟨false, rfl, rfl, by simp⟩
      · go_ret
        exact ⟨false, rfl, rfl, by simp⟩
      · go_round
        case rel => exact ⟨k0 + 1, _, by omega, by omega, by assumption, by go_num, rfl, fun r hr => by
          by_cases e : r = k0
          · subst e; omega
          · exact H0.out r (by omega)⟩
        case measure => simp [intOf]; omega
    have hkz0 : ¬ (k0 : Int) < (n0 : Int) := by omega
    have HF0 : Hid (∀ r, r < n0 → (S0 r).size ≤ 1048576) := fun r hr => H0.out r (by omega)
    clear H0 h0 hs0
    by_cases hb1 : 1048576 < n1
    · have hbz1 : (1048576 : Int) < (n1 : Int) := by omega
      go_wp2
      go_ret
      exact ⟨false, rfl, rfl, by simp⟩
    have hbz1 : ¬ (1048576 : Int) < (n1 : Int) := by omega
    go_wp2
    · go_ret
      exact ⟨false, rfl, rfl, by simp⟩
    go_loop [9, 11] (fun z i => ∃ (k : Nat) (y : Int), k ≤ n1 ∧ 0 ≤ y ∧ y ≤ 1048576 ∧ i = .int .i64 k ∧ z = .int .i64 y ∧ ∀ r, r < k → (S1 r).size ≤ 1048576) (fun _ i => n1 - (intOf i).toNat)
    case atStart => exact ⟨0, _, Nat.zero_le _, by omega, by first | assumption | omega, rfl, rfl, fun r hr => absurd hr (Nat.not_lt_zero _)⟩
    case round =>
      obtain ⟨k1, y1, hk1, hy1, hyy1, rfl, rfl, hall1⟩ := hrel
      have H1 : Hid (∀ r, r < k1 → (S1 r).size ≤ 1048576) := hall1
      clear hall1
      by_cases hlt1 : k1 < n1
      · obtain rfl := h1.top (by omega)
        have hc := h1.cell k1 hlt1
        have hL := hs1 k1 hlt1
        have hkz : (k1 : Int) < (n1 : Int) := by omega
        go_wp2
        · go_ret
          exact ⟨false, rfl, rfl, by simp⟩
        · go_ret
          exact ⟨false, rfl, rfl, by simp⟩
        · go_round
          case rel => exact ⟨k1 + 1, _, by omega, by omega, by assumption, by go_num, rfl, fun r hr => by
            by_cases e : r = k1
            · subst e; omega
            · exact H1.out r (by omega)⟩
          case measure => simp [intOf]; omega
      have hkz1 : ¬ (k1 : Int) < (n1 : Int) := by omega
      have HF1 : Hid (∀ r, r < n1 → (S1 r).size ≤ 1048576) := fun r hr => H1.out r (by omega)
      clear H1 h1 hs1
      by_cases hb2 : 1048576 < n2
      · have hbz2 : (1048576 : Int) < (n2 : Int) := by omega
        go_wp2
        go_ret
        exact ⟨false, rfl, rfl, by simp⟩
      have hbz2 : ¬ (1048576 : Int) < (n2 : Int) := by omega
      go_wp2
      · go_ret
        exact ⟨false, rfl, rfl, by simp⟩
      go_loop [9, 12] (fun z i => ∃ (k : Nat) (y : Int), k ≤ n2 ∧ 0 ≤ y ∧ y ≤ 1048576 ∧ i = .int .i64 k ∧ z = .int .i64 y ∧ ∀ r, r < k → (S2 r).size ≤ 1048576) (fun _ i => n2 - (intOf i).toNat)
      case atStart => exact ⟨0, _, Nat.zero_le _, by omega, by first | assumption | omega, rfl, rfl, fun r hr => absurd hr (Nat.not_lt_zero _)⟩
      case round =>
        obtain ⟨k2, y2, hk2, hy2, hyy2, rfl, rfl, hall2⟩ := hrel
        have H2 : Hid (∀ r, r < k2 → (S2 r).size ≤ 1048576) := hall2
        clear hall2
        by_cases hlt2 : k2 < n2
        · obtain rfl := h2.top (by omega)
          have hc := h2.cell k2 hlt2
          have hL := hs2 k2 hlt2
          have hkz : (k2 : Int) < (n2 : Int) := by omega
          go_wp2
          · go_ret
            exact ⟨false, rfl, rfl, by simp⟩
          · go_ret
            exact ⟨false, rfl, rfl, by simp⟩
          · go_round
            case rel => exact ⟨k2 + 1, _, by omega, by omega, by assumption, by go_num, rfl, fun r hr => by
              by_cases e : r = k2
              · subst e; omega
              · exact H2.out r (by omega)⟩
            case measure => simp [intOf]; omega
        have hkz2 : ¬ (k2 : Int) < (n2 : Int) := by omega
        have HF2 : Hid (∀ r, r < n2 → (S2 r).size ≤ 1048576) := fun r hr => H2.out r (by omega)
        clear H2 h2 hs2
        by_cases hb3 : 1048576 < n3
        · have hbz3 : (1048576 : Int) < (n3 : Int) := by omega
          go_wp2
          go_ret
          exact ⟨false, rfl, rfl, by simp⟩
        have hbz3 : ¬ (1048576 : Int) < (n3 : Int) := by omega
        go_wp2
        all_goals go_ret
        all_goals first | exact ⟨false, rfl, rfl, by simp⟩ | exact ⟨true, rfl, rfl, fun _ => ⟨by omega, HF0.out, by omega, HF1.out, by omega, HF2.out, by omega⟩⟩

def BytesPost14 (n0 : Nat) (S0 : Nat → ByteArray) (n1 : Nat) (S1 : Nat → ByteArray) (n2 : Nat) (S2 : Nat → ByteArray) (n3 : Nat) (s4 : ByteArray) (w : World) (e : Ending) (w' : World) : Prop := ∃ b : Bool, e = .returned (.bool b) ∧ w' = w ∧ (b = true → n0 ≤ 1048576 ∧ (∀ i, i < n0 → (S0 i).size ≤ 1048576) ∧ n1 ≤ 1048576 ∧ (∀ i, i < n1 → (S1 i).size ≤ 1048576) ∧ n2 ≤ 1048576 ∧ (∀ i, i < n2 → (S2 i).size ≤ 1048576) ∧ n3 ≤ 1048576 ∧ s4.size ≤ 1048576)

set_option maxHeartbeats 2000000 in
set_option maxRecDepth 100000 in
theorem bytes14_any (a0 : Option Addr) (b0 o0 n0 c0 : Nat) (S0 : Nat → ByteArray) (a1 : Option Addr) (b1 o1 n1 c1 : Nat) (S1 : Nat → ByteArray) (a2 : Option Addr) (b2 o2 n2 c2 : Nat) (S2 : Nat → ByteArray) (a3 : Option Addr) (n3 c3 : Nat) (s4 : ByteArray) (w : World) (h0 : IsStrs w a0 b0 o0 n0 S0) (hn0 : n0 ≤ maxLen) (hs0 : ∀ i, i < n0 → (S0 i).size ≤ maxLen) (h1 : IsStrs w a1 b1 o1 n1 S1) (hn1 : n1 ≤ maxLen) (hs1 : ∀ i, i < n1 → (S1 i).size ≤ maxLen) (h2 : IsStrs w a2 b2 o2 n2 S2) (hn2 : n2 ≤ maxLen) (hs2 : ∀ i, i < n2 → (S2 i).size ≤ maxLen) (hn3 : n3 ≤ maxLen) (hz4 : s4.size ≤ maxLen) :
    Calls Tryd.prog 14 #[.slice a0 n0 c0, .slice a1 n1 c1, .slice a2 n2 c2, .slice a3 n3 c3, .string s4] w fun e w' => BytesPost14 n0 S0 n1 S1 n2 S2 n3 s4 w e w' := by
  unfold maxLen at hn0 hs0
  unfold maxLen at hn1 hs1
  unfold maxLen at hn2 hs2
  unfold maxLen at hn3
  unfold maxLen at hz4
  go_enter Tryd.func14, Tryd.ntmps14
  by_cases hb0 : 1048576 < n0
  · have hbz0 : (1048576 : Int) < (n0 : Int) := by omega
    go_wp2
    go_ret
    exact ⟨false, rfl, rfl, by simp⟩
  have hbz0 : ¬ (1048576 : Int) < (n0 : Int) := by omega
  go_wp2
  go_loop [11, 12] (fun z i => ∃ (k : Nat) (y : Int), k ≤ n0 ∧ 0 ≤ y ∧ y ≤ 1048576 ∧ i = .int .i64 k ∧ z = .int .i64 y ∧ ∀ r, r < k → (S0 r).size ≤ 1048576) (fun _ i => n0 - (intOf i).toNat)
  case atStart => exact ⟨0, _, Nat.zero_le _, by omega, by first | assumption | omega, rfl, rfl, fun r hr => absurd hr (Nat.not_lt_zero _)⟩
  case round =>
    obtain ⟨k0, y0, hk0, hy0, hyy0, rfl, rfl, hall0⟩ := hrel
    have H0 : Hid (∀ r, r < k0 → (S0 r).size ≤ 1048576) := hall0
    clear hall0
    by_cases hlt0 : k0 < n0
    · obtain rfl := h0.top (by omega)
      have hc := h0.cell k0 hlt0
      have hL := hs0 k0 hlt0
      have hkz : (k0 : Int) < (n0 : Int) := by omega
      go_wp2
      · go_ret
        exact ⟨false, rfl, rfl, by simp⟩
      · go_ret
        exact ⟨false, rfl, rfl, by simp⟩
      · go_round
        case rel => exact ⟨k0 + 1, _, by omega, by omega, by assumption, by go_num, rfl, fun r hr => by
          by_cases e : r = k0
          · subst e; omega
          · exact H0.out r (by omega)⟩
        case measure => simp [intOf]; omega
    have hkz0 : ¬ (k0 : Int) < (n0 : Int) := by omega
    have HF0 : Hid (∀ r, r < n0 → (S0 r).size ≤ 1048576) := fun r hr => H0.out r (by omega)
    clear H0 h0 hs0
    by_cases hb1 : 1048576 < n1
    · have hbz1 : (1048576 : Int) < (n1 : Int) := by omega
      go_wp2
      go_ret
      exact ⟨false, rfl, rfl, by simp⟩
    have hbz1 : ¬ (1048576 : Int) < (n1 : Int) := by omega
    go_wp2
    · go_ret
      exact ⟨false, rfl, rfl, by simp⟩
    go_loop [11, 13] (fun z i => ∃ (k : Nat) (y : Int), k ≤ n1 ∧ 0 ≤ y ∧ y ≤ 1048576 ∧ i = .int .i64 k ∧ z = .int .i64 y ∧ ∀ r, r < k → (S1 r).size ≤ 1048576) (fun _ i => n1 - (intOf i).toNat)
    case atStart => exact ⟨0, _, Nat.zero_le _, by omega, by first | assumption | omega, rfl, rfl, fun r hr => absurd hr (Nat.not_lt_zero _)⟩
    case round =>
      obtain ⟨k1, y1, hk1, hy1, hyy1, rfl, rfl, hall1⟩ := hrel
      have H1 : Hid (∀ r, r < k1 → (S1 r).size ≤ 1048576) := hall1
      clear hall1
      by_cases hlt1 : k1 < n1
      · obtain rfl := h1.top (by omega)
        have hc := h1.cell k1 hlt1
        have hL := hs1 k1 hlt1
        have hkz : (k1 : Int) < (n1 : Int) := by omega
        go_wp2
        · go_ret
          exact ⟨false, rfl, rfl, by simp⟩
        · go_ret
          exact ⟨false, rfl, rfl, by simp⟩
        · go_round
          case rel => exact ⟨k1 + 1, _, by omega, by omega, by assumption, by go_num, rfl, fun r hr => by
            by_cases e : r = k1
            · subst e; omega
            · exact H1.out r (by omega)⟩
          case measure => simp [intOf]; omega
      have hkz1 : ¬ (k1 : Int) < (n1 : Int) := by omega
      have HF1 : Hid (∀ r, r < n1 → (S1 r).size ≤ 1048576) := fun r hr => H1.out r (by omega)
      clear H1 h1 hs1
      by_cases hb2 : 1048576 < n2
      · have hbz2 : (1048576 : Int) < (n2 : Int) := by omega
        go_wp2
        go_ret
        exact ⟨false, rfl, rfl, by simp⟩
      have hbz2 : ¬ (1048576 : Int) < (n2 : Int) := by omega
      go_wp2
      · go_ret
        exact ⟨false, rfl, rfl, by simp⟩
      go_loop [11, 14] (fun z i => ∃ (k : Nat) (y : Int), k ≤ n2 ∧ 0 ≤ y ∧ y ≤ 1048576 ∧ i = .int .i64 k ∧ z = .int .i64 y ∧ ∀ r, r < k → (S2 r).size ≤ 1048576) (fun _ i => n2 - (intOf i).toNat)
      case atStart => exact ⟨0, _, Nat.zero_le _, by omega, by first | assumption | omega, rfl, rfl, fun r hr => absurd hr (Nat.not_lt_zero _)⟩
      case round =>
        obtain ⟨k2, y2, hk2, hy2, hyy2, rfl, rfl, hall2⟩ := hrel
        have H2 : Hid (∀ r, r < k2 → (S2 r).size ≤ 1048576) := hall2
        clear hall2
        by_cases hlt2 : k2 < n2
        · obtain rfl := h2.top (by omega)
          have hc := h2.cell k2 hlt2
          have hL := hs2 k2 hlt2
          have hkz : (k2 : Int) < (n2 : Int) := by omega
          go_wp2
          · go_ret
            exact ⟨false, rfl, rfl, by simp⟩
          · go_ret
            exact ⟨false, rfl, rfl, by simp⟩
          · go_round
            case rel => exact ⟨k2 + 1, _, by omega, by omega, by assumption, by go_num, rfl, fun r hr => by
              by_cases e : r = k2
              · subst e; omega
              · exact H2.out r (by omega)⟩
            case measure => simp [intOf]; omega
        have hkz2 : ¬ (k2 : Int) < (n2 : Int) := by omega
        have HF2 : Hid (∀ r, r < n2 → (S2 r).size ≤ 1048576) := fun r hr => H2.out r (by omega)
        clear H2 h2 hs2
        by_cases hb3 : 1048576 < n3
        · have hbz3 : (1048576 : Int) < (n3 : Int) := by omega
          go_wp2
          go_ret
          exact ⟨false, rfl, rfl, by simp⟩
        have hbz3 : ¬ (1048576 : Int) < (n3 : Int) := by omega
        by_cases hb4 : 1048576 < s4.size
        · have hbz4 : (1048576 : Int) < (s4.size : Int) := by omega
          go_wp2
          all_goals (go_ret; exact ⟨false, rfl, rfl, by simp⟩)
        have hbz4 : ¬ (1048576 : Int) < (s4.size : Int) := by omega
        go_wp2
        all_goals go_ret
        all_goals first | exact ⟨false, rfl, rfl, by simp⟩ | exact ⟨true, rfl, rfl, fun _ => ⟨by omega, HF0.out, by omega, HF1.out, by omega, HF2.out, by omega, by omega⟩⟩

end Go.Proofs.Qxb6606006aDoor.Ix
