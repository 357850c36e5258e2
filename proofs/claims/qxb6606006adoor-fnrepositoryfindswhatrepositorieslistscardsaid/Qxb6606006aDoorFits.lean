import Derived.Test.Qxb6606006aDoorBase
import Derived.Deep.QuietTactic
import Derived.BigQuiet
namespace Go.Proofs.Qxb6606006aDoor.Ix
open Go.RowKit
set_option linter.unusedVariables false

/-- The strings' lengths and the counts, added up over the first k repositories. -/
def sumS (S0 S1 S2 : Nat → ByteArray) : Nat → Nat
  | 0 => 0
  | k + 1 => sumS S0 S1 S2 k + ((S0 k).size + (S1 k).size + (S2 k).size)
def sumK (K : Nat → Int) : Nat → Nat
  | 0 => 0
  | k + 1 => sumK K k + (K k).toNat

theorem sumS_le {S0 S1 S2 : Nat → ByteArray} : ∀ k, (∀ i, i < k → (S0 i).size ≤ 1048576 ∧ (S1 i).size ≤ 1048576 ∧ (S2 i).size ≤ 1048576) → sumS S0 S1 S2 k ≤ 3145728 * k
  | 0, _ => Nat.le_refl _
  | k + 1, h => by
    have h1 := sumS_le k (fun i hi => h i (by omega))
    have h2 := h k (by omega)
    rw [sumS]; omega
theorem sumK_le {K : Nat → Int} : ∀ k, (∀ i, i < k → K i ≤ 255) → sumK K k ≤ 255 * k
  | 0, _ => Nat.le_refl _
  | k + 1, h => by
    have h1 := sumK_le k (fun i hi => h i (by omega))
    have h2 := h k (by omega)
    rw [sumK]; omega

def FitsPost (n0 n1 n2 n3 : Nat) (S0 S1 S2 : Nat → ByteArray) (K : Nat → Int) (w : World) (e : Ending) (w' : World) : Prop :=
  ∃ b : Bool, e = .returned (.bool b) ∧ Below w.heap.size w w' ∧ (b = true → n1 = n0 ∧ n2 = n0 ∧ n3 = n0 ∧ sumK K n0 ≤ 65536 ∧ 14 + sumS S0 S1 S2 n0 + 40 * sumK K n0 + 48 * n0 + 64 ≤ 1048576)

set_option maxHeartbeats 2000000 in
set_option maxRecDepth 100000 in
theorem fits_any (a0 : Option Addr) (b0 o0 n0 c0 : Nat) (S0 : Nat → ByteArray) (a1 : Option Addr) (b1 o1 n1 c1 : Nat) (S1 : Nat → ByteArray) (a2 : Option Addr) (b2 o2 n2 c2 : Nat) (S2 : Nat → ByteArray) (a3 : Option Addr) (b3 o3 n3 c3 : Nat) (K : Nat → Int) (x : Int) (w : World)
    (h0 : IsStrs w a0 b0 o0 n0 S0) (h1 : IsStrs w a1 b1 o1 n1 S1) (h2 : IsStrs w a2 b2 o2 n2 S2) (h3 : IsNums w a3 b3 o3 n3 K) (hn0 : n0 ≤ 65536) (hn1 : n1 ≤ 65536) (hn2 : n2 ≤ 65536) (hn3 : n3 ≤ 65536)
    (hs0 : ∀ i, i < n0 → (S0 i).size ≤ 1048576) (hs1 : ∀ i, i < n1 → (S1 i).size ≤ 1048576) (hs2 : ∀ i, i < n2 → (S2 i).size ≤ 1048576) (hK : ∀ i, i < n3 → 0 ≤ K i ∧ K i ≤ 255) (hx0 : 0 ≤ x) (hx1 : x ≤ 1048576) :
    Calls Tryd.prog 6 #[.slice a0 n0 c0, .slice a1 n1 c1, .slice a2 n2 c2, .slice a3 n3 c3, .int .i64 x] w fun e w' => FitsPost n0 n1 n2 n3 S0 S1 S2 K w e w' := by
  have no : FitsPost n0 n1 n2 n3 S0 S1 S2 K w (.returned (.bool false)) w := ⟨false, rfl, Below.refl _ _, by simp⟩
  have NO := Hid.out (p := FitsPost n0 n1 n2 n3 S0 S1 S2 K w (.returned (.bool false)) w)
  have HNO : Hid (FitsPost n0 n1 n2 n3 S0 S1 S2 K w (.returned (.bool false)) w) := no
  clear no NO
  go_enter Tryd.func6, Tryd.ntmps6
  go_wp2
  · go_ret
    exact HNO.out
  go_loop [11, 12] (fun z i => ∃ (k : Nat) (y : Int), k ≤ n0 ∧ 0 ≤ y ∧ y ≤ 1048576 ∧ i = .int .i64 k ∧ z = .int .i64 y) (fun _ i => n0 - (intOf i).toNat)
  case atStart => exact ⟨0, _, Nat.zero_le _, by omega, by first | assumption | omega, rfl, rfl⟩
  case round =>
    obtain ⟨k, y, hk, hy0, hy1, rfl, rfl⟩ := hrel
    by_cases hlt : k < n0
    · obtain rfl := h0.top (by omega)
      have hc := h0.cell k hlt
      have hL := hs0 k hlt
      have hkz : (k : Int) < (n0 : Int) := by omega
      go_wp2
      · go_ret
        exact HNO.out
      · go_round
        case rel => exact ⟨k + 1, _, by omega, by omega, by assumption, by go_num, rfl⟩
        case measure => simp [intOf]; omega
    have hkz : ¬ (k : Int) < (n0 : Int) := by omega
    go_wp2
    go_loop [11, 13] (fun z i => ∃ (k : Nat) (y : Int), k ≤ n1 ∧ 0 ≤ y ∧ y ≤ 1048576 ∧ i = .int .i64 k ∧ z = .int .i64 y) (fun _ i => n1 - (intOf i).toNat)
    case atStart => exact ⟨0, _, Nat.zero_le _, by omega, by first | assumption | omega, rfl, rfl⟩
    case round =>
      obtain ⟨k', y', hk', hy0', hy1', rfl, rfl⟩ := hrel
      by_cases hlt' : k' < n1
      · obtain rfl := h1.top (by omega)
        have hc := h1.cell k' hlt'
        have hL := hs1 k' hlt'
        have hkz' : (k' : Int) < (n1 : Int) := by omega
        go_wp2
        · go_ret
          exact HNO.out
        · go_round
          case rel => exact ⟨k' + 1, _, by omega, by omega, by assumption, by go_num, rfl⟩
          case measure => simp [intOf]; omega
      have hkz' : ¬ (k' : Int) < (n1 : Int) := by omega
      go_wp2
      go_loop [11, 14] (fun z i => ∃ (k : Nat) (y : Int), k ≤ n2 ∧ 0 ≤ y ∧ y ≤ 1048576 ∧ i = .int .i64 k ∧ z = .int .i64 y) (fun _ i => n2 - (intOf i).toNat)
      case atStart => exact ⟨0, _, Nat.zero_le _, by omega, by first | assumption | omega, rfl, rfl⟩
      case round =>
        obtain ⟨k2, y2, hk2, hy02, hy12, rfl, rfl⟩ := hrel
        by_cases hlt2 : k2 < n2
        · obtain rfl := h2.top (by omega)
          have hc := h2.cell k2 hlt2
          have hL := hs2 k2 hlt2
          have hkz2 : (k2 : Int) < (n2 : Int) := by omega
          go_wp2
          · go_ret
            exact HNO.out
          · go_round
            case rel => exact ⟨k2 + 1, _, by omega, by omega, by assumption, by go_num, rfl⟩
            case measure => simp [intOf]; omega
        have hkz2 : ¬ (k2 : Int) < (n2 : Int) := by omega
        by_cases e1 : n1 = n0
        · subst e1
          by_cases e2 : n2 = n1
          · subst e2
            by_cases e3 : n3 = n2
            · subst e3
              have HS1 : Hid (∀ k, k ≤ n3 → sumS S0 S1 S2 k ≤ 3145728 * k) := fun k (hk : k ≤ n3) => sumS_le (S0 := S0) (S1 := S1) (S2 := S2) k (fun i hi => ⟨hs0 i (by omega), hs1 i (by omega), hs2 i (by omega)⟩)
              have HK1 : Hid (∀ k, k ≤ n3 → sumK K k ≤ 255 * k) := fun k (hk : k ≤ n3) => sumK_le (K := K) k (fun i hi => (hK i (by omega)).2)
              go_wp2_with fail
              clear hkz hkz' hkz2 hlt hlt' hlt2 hk hk' hk2
              go_loopg [16, 17, 18] n3 (fun g t s i wr => ∃ k : Nat, k ≤ n3 ∧ g = n3 - k ∧ i = .int .i64 k ∧ t = .int .i64 (sumK K k) ∧ s = .int .i64 (sumS S0 S1 S2 k) ∧ Below w.heap.size w wr)
              case atStart => exact ⟨0, Nat.zero_le _, rfl, rfl, rfl, rfl, Below.refl _ _⟩
              case round =>
                obtain ⟨k, hk, rfl, rfl, rfl, rfl, hbel⟩ := hrel
                have hb1 := HS1.out k hk
                have hb2 := HK1.out k hk
                by_cases hlt : k < n3
                · have hkz : (k : Int) < (n3 : Int) := by omega
                  obtain rfl := h0.top (by omega)
                  obtain rfl := h1.top (by omega)
                  obtain rfl := h2.top (by omega)
                  obtain rfl := h3.top (by omega)
                  have g0 := (h0.below hbel).cell k hlt
                  have g1 := (h1.below hbel).cell k hlt
                  have g2 := (h2.below hbel).cell k hlt
                  have g3 := (h3.below hbel).cell k hlt
                  have l0 := hs0 k hlt
                  have l1 := hs1 k hlt
                  have l2 := hs2 k hlt
                  obtain ⟨l3, l4⟩ := hK k hlt
                  clear h0 h1 h2 h3 hs0 hs1 hs2 hK
                  go_wp2_with fail
                  go_quiet (fail)
                  go_wp2
                  go_roundg (n3 - (k + 1))
                  case measure => omega
                  case rel =>
                    go_light
                    exact ⟨k + 1, by omega, rfl, by go_num, by rw [sumK]; go_num, by rw [sumS]; go_num, below_drewN hbel _⟩
                · have hkz : ¬ (k : Int) < (n3 : Int) := by omega
                  obtain rfl : n3 = k := by omega
                  by_cases hT : 65536 < sumK K n3
                  · have hTz : (65536 : Int) < (sumK K n3 : Int) := by omega
                    go_wp2
                    go_ret
                    exact ⟨false, rfl, hbel, by simp⟩
                  · have hTz : ¬ (65536 : Int) < (sumK K n3 : Int) := by omega
                    go_wp2
                    go_ret
                    exact ⟨_, rfl, hbel, fun hd => ⟨rfl, rfl, rfl, by omega, by simp at hd; omega⟩⟩
            · have e3' : ((n3 : Int) != (n2 : Int)) = true := by rw [bne_iff_ne]; omega
              go_wp2
              go_ret
              exact HNO.out
          · have e2' : ((n2 : Int) != (n1 : Int)) = true := by rw [bne_iff_ne]; omega
            go_wp2
            go_ret
            exact HNO.out
        · have e1' : ((n1 : Int) != (n0 : Int)) = true := by rw [bne_iff_ne]; omega
          go_wp2
          go_ret
          exact HNO.out

end Go.Proofs.Qxb6606006aDoor.Ix
