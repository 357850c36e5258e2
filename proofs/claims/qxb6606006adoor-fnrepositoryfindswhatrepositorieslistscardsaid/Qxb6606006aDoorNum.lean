import Derived.Test.Qxb6606006aDoorImg
import Derived.Lib.EndianBits
import Derived.Lib.QuietBelow
namespace Go.Proofs.Qxb6606006aDoor.Ix
open Go.RowKit
set_option linter.unusedVariables false

theorem or8 {b0 b1 b2 b3 b4 b5 b6 b7 : Int} (l0 : 0 ≤ b0) (m0 : b0 < 256) (l1 : 0 ≤ b1) (m1 : b1 < 256) (l2 : 0 ≤ b2) (m2 : b2 < 256) (l3 : 0 ≤ b3) (m3 : b3 < 256) (l4 : 0 ≤ b4) (m4 : b4 < 256) (l5 : 0 ≤ b5) (m5 : b5 < 256) (l6 : 0 ≤ b6) (m6 : b6 < 256) (l7 : 0 ≤ b7) (m7 : b7 < 256) :
    bits .or .u64 (bits .or .u64 (bits .or .u64 (bits .or .u64 (bits .or .u64 (bits .or .u64 (bits .or .u64 b0 (b1 * 256)) (b2 * 65536)) (b3 * 16777216)) (b4 * 4294967296)) (b5 * 1099511627776)) (b6 * 281474976710656)) (b7 * 72057594037927936)
      = b0 + b1 * 256 + b2 * 65536 + b3 * 16777216 + b4 * 4294967296 + b5 * 1099511627776 + b6 * 281474976710656 + b7 * 72057594037927936 := by
  simp (disch := omega) only [u64_or8, u64_or16, u64_or24, u64_or32, u64_or40, u64_or48, u64_or56]

def NumPost (v : Int) (w : World) (e : Ending) (w' : World) : Prop := e = .returned (.int .u64 v) ∧ Below w.heap.size w w'

set_option maxHeartbeats 4000000 in
set_option maxRecDepth 100000 in
theorem u64_bytes (x : Value) (g o n c : Nat) (b0 b1 b2 b3 b4 b5 b6 b7 : Int) (w : World) (hn : 8 ≤ n)
    (c0 : w.cell? ⟨g, o, none⟩ = some (.int .u8 b0)) (c1 : w.cell? ⟨g, o + 1, none⟩ = some (.int .u8 b1)) (c2 : w.cell? ⟨g, o + 2, none⟩ = some (.int .u8 b2)) (c3 : w.cell? ⟨g, o + 3, none⟩ = some (.int .u8 b3)) (c4 : w.cell? ⟨g, o + 4, none⟩ = some (.int .u8 b4)) (c5 : w.cell? ⟨g, o + 5, none⟩ = some (.int .u8 b5)) (c6 : w.cell? ⟨g, o + 6, none⟩ = some (.int .u8 b6)) (c7 : w.cell? ⟨g, o + 7, none⟩ = some (.int .u8 b7))
    (h0 : 0 ≤ b0 ∧ b0 < 256) (h1 : 0 ≤ b1 ∧ b1 < 256) (h2 : 0 ≤ b2 ∧ b2 < 256) (h3 : 0 ≤ b3 ∧ b3 < 256) (h4 : 0 ≤ b4 ∧ b4 < 256) (h5 : 0 ≤ b5 ∧ b5 < 256) (h6 : 0 ≤ b6 ∧ b6 < 256) (h7 : 0 ≤ b7 ∧ b7 < 256) :
    Calls Tryd.prog 23 #[.agg #[], .slice (some ⟨g, o, none⟩) n c] w fun e w' => NumPost (b0 + b1 * 256 + b2 * 65536 + b3 * 16777216 + b4 * 4294967296 + b5 * 1099511627776 + b6 * 281474976710656 + b7 * 72057594037927936) w e w' := by
  have hg : g < w.heap.size := World.block_lt_of_cell? _ _ c0
  have d : ∀ j v, w.cell? ⟨g, o + j, none⟩ = some v → (w.alloc (.cells #[] 66)).cell? ⟨g, o + j, none⟩ = some v := fun j v h => by
    rw [World.cell?_alloc_old _ _ _ (by show g ≠ w.heap.size; omega)]; exact h
  have d0 : (w.alloc (.cells #[] 66)).cell? ⟨g, o, none⟩ = some (.int .u8 b0) := d 0 _ c0
  have d1 := d 1 _ c1
  have d2 := d 2 _ c2
  have d3 := d 3 _ c3
  have d4 := d 4 _ c4
  have d5 := d 5 _ c5
  have d6 := d 6 _ c6
  have d7 := d 7 _ c7
  clear d
  have q0 : (0 : Int) < (n : Int) := by omega
  have q1 : (1 : Int) < (n : Int) := by omega
  have q2 : (2 : Int) < (n : Int) := by omega
  have q3 : (3 : Int) < (n : Int) := by omega
  have q4 : (4 : Int) < (n : Int) := by omega
  have q5 : (5 : Int) < (n : Int) := by omega
  have q6 : (6 : Int) < (n : Int) := by omega
  have q7 : (7 : Int) < (n : Int) := by omega
  obtain ⟨l0, m0⟩ := h0
  obtain ⟨l1, m1⟩ := h1
  obtain ⟨l2, m2⟩ := h2
  obtain ⟨l3, m3⟩ := h3
  obtain ⟨l4, m4⟩ := h4
  obtain ⟨l5, m5⟩ := h5
  obtain ⟨l6, m6⟩ := h6
  obtain ⟨l7, m7⟩ := h7
  go_enter Tryd.func23, Tryd.ntmps23
  go_wp2
  go_quiet (fail)
  go_wp2
  go_ret
  refine ⟨?_, below_drewN ((Below.refl _ w).alloc (Nat.le_refl _) _) _⟩
  go_light
  show Ending.returned (.int .u64 (bits .or .u64 (bits .or .u64 (bits .or .u64 (bits .or .u64 (bits .or .u64 (bits .or .u64 (bits .or .u64 b0 (b1 * 256)) (b2 * 65536)) (b3 * 16777216)) (b4 * 4294967296)) (b5 * 1099511627776)) (b6 * 281474976710656)) (b7 * 72057594037927936))) = _
  rw [or8 l0 m0 l1 m1 l2 m2 l3 m3 l4 m4 l5 m5 l6 m6 l7 m7]

theorem byteOf_in (v : Int) (j : Nat) : 0 ≤ byteOf v j ∧ byteOf v j < 256 := by unfold byteOf; omega
theorem byteOf_sum {v : Int} (h0 : 0 ≤ v) (h1 : v ≤ 1048576) : byteOf v 0 + byteOf v 1 * 256 + byteOf v 2 * 65536 + byteOf v 3 * 16777216 + byteOf v 4 * 4294967296 + byteOf v 5 * 1099511627776 + byteOf v 6 * 281474976710656 + byteOf v 7 * 72057594037927936 = v := by
  simp only [byteOf, Nat.mul_zero, Int.pow_zero, Int.ediv_one, Nat.mul_one, Int.reducePow, Nat.reduceMul]
  omega

/-- Uint64 of eight bytes that spell v. -/
theorem u64_any (f : Nat → Int) (g o n c : Nat) (v : Int) (w : World) (hn : 8 ≤ n) (hc : ∀ j, j < 8 → w.cell? ⟨g, o + j, none⟩ = some (.int .u8 (f (o + j)))) (hf : le8 f o v) (h0 : 0 ≤ v) (h1 : v ≤ 1048576) :
    Calls Tryd.prog 23 #[.agg #[], .slice (some ⟨g, o, none⟩) n c] w fun e w' => NumPost v w e w' := by
  have hc' : ∀ j, j < 8 → w.cell? ⟨g, o + j, none⟩ = some (.int .u8 (byteOf v j)) := fun j hj => by rw [hc j hj, hf j hj]
  have := u64_bytes (.agg #[]) g o n c _ _ _ _ _ _ _ _ w hn (hc' 0 (by omega)) (hc' 1 (by omega)) (hc' 2 (by omega)) (hc' 3 (by omega)) (hc' 4 (by omega)) (hc' 5 (by omega)) (hc' 6 (by omega)) (hc' 7 (by omega))
    (byteOf_in _ _) (byteOf_in _ _) (byteOf_in _ _) (byteOf_in _ _) (byteOf_in _ _) (byteOf_in _ _) (byteOf_in _ _) (byteOf_in _ _)
  rw [byteOf_sum h0 h1] at this
  exact this

set_option maxHeartbeats 400000 in
theorem number_any (f : Nat → Int) (g o n c : Nat) (v : Int) (w : World) (hn : 8 ≤ n) (hc : ∀ j, j < 8 → w.cell? ⟨g, o + j, none⟩ = some (.int .u8 (f (o + j)))) (hf : le8 f o v) (h0 : 0 ≤ v) (h1 : v ≤ 1048576) :
    Calls Tryd.prog 27 #[.slice (some ⟨g, o, none⟩) n c] w fun e w' => NumPost v w e w' := by
  go_enter Tryd.func27, Tryd.ntmps27
  go_wp2_with fail
  refine (u64_any f g o n c v w hn hc hf h0 h1).mono ?_
  rintro e w' ⟨rfl, hb⟩
  go_wp2
  go_ret
  exact ⟨rfl, hb⟩

end Go.Proofs.Qxb6606006aDoor.Ix
