import Derived.Test.Qxb6606006aDoorLoad
import Derived.Test.Qxb6606006aDoorMain
namespace Go.Proofs.Qxb6606006aDoor.Ix
open Go.RowKit
set_option linter.unusedVariables false
set_option linter.unusedSimpArgs false
attribute [local go_sem ↓] Go.wp_at_zero Go.wp_at_succ

theorem repCells_length (I : Nat) (S0 S1 S2 : Nat → ByteArray) (K : Nat → Int) : ∀ n, (repCells I S0 S1 S2 K n).length = 6 * n
  | 0 => rfl
  | n + 1 => by rw [repCells, List.length_append, repCells_length I S0 S1 S2 K n]; simp; omega

theorem repCells_at (I : Nat) (S0 S1 S2 : Nat → ByteArray) (K : Nat → Int) : ∀ n k j, k < n → j < 6 → (repCells I S0 S1 S2 K n)[k * 6 + j]? = [Value.string (S0 k), .string (S1 k), .string (S2 k), .pointer (some ⟨I, 0, none⟩), .int .i64 (sumK K k : Nat), .int .i64 ((sumK K k : Nat) + K k)][j]?
  | 0, k, j, h, _ => absurd h (Nat.not_lt_zero _)
  | n + 1, k, j, h, hj => by
    rw [repCells]
    by_cases e : k < n
    · rw [List.getElem?_append_left (by rw [repCells_length]; omega)]
      exact repCells_at I S0 S1 S2 K n k j e hj
    · obtain rfl : k = n := by omega
      rw [List.getElem?_append_right (by rw [repCells_length]; omega), repCells_length]
      congr 1
      omega

theorem Loaded.of_done {w wy : World} {I g N SS T SE FE RE n : Nat} {f : Nat → Int} {S0 S1 S2 : Nat → ByteArray} {K : Nat → Int} {oS oF : Nat} (h : Done4 w wy I g N SS T SE FE RE n f S0 S1 S2 K oS oF) : Loaded wy I n S0 S1 S2 K := by
  obtain ⟨V7, hL, v1, v2, hown⟩ := h
  have hc : wy.cell? ⟨I, 3, none⟩ = some (V7 3) := hL.ix.cell (by omega)
  rcases hown.2 with ⟨hv, hn⟩ | ⟨b, cap, cur, hv, hb, hheap, hnc, hcm, hcur, htake⟩
  · subst hn
    exact ⟨none, 0, 0, by rw [hc, hv], fun h => absurd h (Nat.lt_irrefl _), fun k hk => absurd hk (Nat.not_lt_zero _)⟩
  · refine ⟨some ⟨b, 0, none⟩, b, cap, by rw [hc, hv], fun _ => rfl, fun k hk => ?_⟩
    have key : ∀ j, j < 6 → wy.cell? ⟨b, k * 6 + j, none⟩ = [Value.string (S0 k), .string (S1 k), .string (S2 k), .pointer (some ⟨I, 0, none⟩), .int .i64 (sumK K k : Nat), .int .i64 ((sumK K k : Nat) + K k)][j]? := fun j hj => by
      rw [← repCells_at I S0 S1 S2 K n k j hk hj, ← htake, List.getElem?_take_of_lt (by omega)]
      simp [World.cell?, hheap]
    exact ⟨key 0 (by omega), key 1 (by omega), key 2 (by omega), key 3 (by omega), key 4 (by omega), key 5 (by omega)⟩

theorem zload_any (I g N n : Nat) (f : Nat → Int) (S0 S1 S2 : Nat → ByteArray) (K : Nat → Int) (V : Nat → Value) (w : World)
    (hix : w.rowIs I 56 12 V) (hv0 : V 0 = .slice (some ⟨g, 0, none⟩) N N) (hv3 : V 3 = .slice none 0 0) (hdat : w.rowIs g 5 N (fun p => .int .u8 (f p))) (hne : I ≠ g)
    (hNe : N = 14 + sumS S0 S1 S2 n + 40 * sumK K n + 48 * n + 64) (hN : N ≤ 1048576) (img : Img f S0 S1 S2 K n) (hK : ∀ i, i < n → 0 ≤ K i ∧ K i ≤ 255) :
    Calls Tryd.prog 11 #[.pointer (some ⟨I, 0, none⟩)] w fun e w' => ZLoadPost w I n S0 S1 S2 K e w' := by
  have hl := load_any I g (sumS S0 S1 S2 n) (14 + sumS S0 S1 S2 n) (14 + sumS S0 S1 S2 n + 40 * sumK K n) (14 + sumS S0 S1 S2 n + 40 * sumK K n + 48 * n) N (sumK K n) n f S0 S1 S2 K V w hix hv0 hdat hne hN (by omega) img.hdr (by omega) (by omega) (by omega) (by omega) (by omega)
    (fun s hs => by
      have e : N - 64 + s * 8 = 14 + sumS S0 S1 S2 n + 40 * sumK K n + 48 * n + 8 * s := by omega
      rw [e]
      unfold offs
      by_cases h0 : s = 0
      · subst h0; exact img.t0
      by_cases h1 : s = 1
      · subst h1; exact img.t1
      by_cases h2 : s = 2
      · subst h2; exact img.t2
      rw [if_neg h0, if_neg h1, if_neg h2]
      exact img.t3 s (by omega) hs)
    (by omega) (by omega) (by omega) (by omega) (by omega) (by omega) img.files hv3 img.recs (Nat.le_refl _) (Nat.le_refl _) (Nat.le_refl _) (Nat.le_refl _) hK
  go_enter Tryd.func11, Tryd.ntmps11
  go_wp2_with fail
  refine hl.mono ?_
  rintro e w' ⟨rfl, oS, oF, hd⟩
  clear hl
  have hl := Loaded.of_done hd
  obtain ⟨V7, hL, -⟩ := hd
  have hg := hL.gr
  clear hL
  go_wp2_with fail
  go_ret
  exact ⟨rfl, hl, hg⟩

theorem zok : ZOK := zload_any

end Go.Proofs.Qxb6606006aDoor.Ix
