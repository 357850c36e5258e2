import Derived.Test.Qxb6606006aRows
import Derived.WalkKit
import Derived.WalkLawsBesides
import Derived.WalkSpells
import Derived.Deep.LoopGhost
import Derived.Deep.OwnRows
import Derived.Deep.Light
namespace Go.Proofs.Qxb6606006a.Post
open Go.RowKit

/-- WHAT IS KNOWN OF THE LISTS: G rows; row r holds the numbers 'Z r 0 .. Z r (L r - 1)'. -/
structure IsLists (w : World) (ga : Option Addr) (gb go G : Nat) (A : Nat → Option Addr) (L C RB RO : Nat → Nat) (Z : Nat → Nat → Int) : Prop where
  top : 0 < G → ga = some ⟨gb, go, none⟩
  row : ∀ r, r < G → w.cell? ⟨gb, go + r, none⟩ = some (.slice (A r) (L r) (C r))
  num : ∀ r, r < G → ∀ c, c < L r → A r = some ⟨RB r, RO r, none⟩ ∧ w.cell? ⟨RB r, RO r + c, none⟩ = some (.int .u32 (Z r c))

/-- What 'zzBytes' comes to. -/
def BytesPost (G : Nat) (L : Nat → Nat) (w : World) (e : Ending) (w' : World) : Prop := ∃ b : Bool, e = .returned (.bool b) ∧ w' = w ∧ (b = true → G ≤ 1048576 ∧ ∀ r, r < G → L r ≤ 1048576)

set_option maxHeartbeats 400000 in
theorem bytes_any (base probe : Int) (ga : Option Addr) (gb go G Gc : Nat) (A : Nat → Option Addr) (L C RB RO : Nat → Nat) (Z : Nat → Nat → Int) (w : World)
    (h : IsLists w ga gb go G A L C RB RO Z) (hG : G ≤ maxLen) (hL : ∀ r, r < G → L r ≤ maxLen) :
    Calls Try.prog 6 #[.int .i64 base, .slice ga G Gc, .int .u32 probe] w fun e w' => BytesPost G L w e w' := by
  unfold maxLen at hG hL
  by_cases hbig : 1048576 < G
  · have hz : (1048576 : Int) < (G : Int) := by omega
    go_enter Try.func6, Try.ntmps6
    go_wp2
    go_ret
    exact ⟨false, rfl, rfl, by simp⟩
  have hz : ¬ (1048576 : Int) < (G : Int) := by omega
  go_enter Try.func6, Try.ntmps6
  go_wp2
  go_loop [7, 8] (fun n i => ∃ (k : Nat) (z : Int), k ≤ G ∧ 0 ≤ z ∧ z ≤ 1048576 ∧ i = .int .i64 k ∧ n = .int .i64 z ∧ ∀ r, r < k → L r ≤ 1048576) (fun _ i => G - (intOf i).toNat)
  case atStart => exact ⟨0, _, Nat.zero_le _, by omega, by omega, rfl, rfl, fun r hr => absurd hr (Nat.not_lt_zero _)⟩
  case round =>
    obtain ⟨k, z, hk, hz0, hz1, rfl, rfl, hall⟩ := hrel
    by_cases hlt : k < G
    · obtain rfl := h.top (by omega)
      have hc := h.row k hlt
      have hLk := hL k hlt
      have hkz : (k : Int) < (G : Int) := by omega
      have HA : Hid (∀ r, r < k → L r ≤ 1048576) := hall
      clear hall h hL
      go_wp2
      · go_ret
        exact ⟨false, rfl, rfl, by simp⟩
      · go_ret
        exact ⟨false, rfl, rfl, by simp⟩
      · go_round
        case rel => exact ⟨k + 1, _, by omega, by omega, by assumption, by go_num, rfl, fun r hr => by
          by_cases e : r = k
          · subst e; omega
          · exact HA.out r (by omega)⟩
        case measure => simp [intOf]; omega
    · have hkz : ¬ (k : Int) < (G : Int) := by omega
      have HA : Hid (∀ r, r < k → L r ≤ 1048576) := hall
      clear hall h hL
      go_wp2
      go_ret
      exact ⟨true, rfl, rfl, fun _ => ⟨by omega, fun r hr => HA.out r (by omega)⟩⟩

end Go.Proofs.Qxb6606006a.Post
