import Derived.Test.Qxb6606006aDoorLess
import Derived.Test.Qxb6606006aDoorLS
import Derived.WideShapes
namespace Go.Proofs.Qxb6606006aDoor.Ix
open Go.RowKit
set_option linter.unusedVariables false
set_option linter.unusedSimpArgs false
attribute [local go_sem ↓] Go.wp_at_zero Go.wp_at_succ

/-- What a search sees: its variable of the repositories at R, the name at Q, the repositories' names in block b. -/
structure Sees (w : World) (R Q b n c : Nat) (S : Nat → ByteArray) (p : ByteArray) : Prop where
  reps : 0 < n → w.cell? ⟨R, 0, none⟩ = some (.slice (some ⟨b, 0, none⟩) n c)
  name : w.cell? ⟨Q, 0, none⟩ = some (.string p)
  cell : ∀ i, i < n → w.cell? ⟨b, i * 6, none⟩ = some (.string (S i))

theorem Sees.below {w w' : World} {R Q b n c : Nat} {S : Nat → ByteArray} {p : ByteArray} (h : Sees w R Q b n c S p) (hb : Below w.heap.size w w') : Sees w' R Q b n c S p :=
  ⟨fun h0 => by rw [hb.cell (World.block_lt_of_cell? _ _ (h.reps h0))]; exact h.reps h0, by rw [hb.cell (World.block_lt_of_cell? _ _ h.name)]; exact h.name, fun i hi => by rw [hb.cell (World.block_lt_of_cell? _ _ (h.cell i hi))]; exact h.cell i hi⟩

def AskPost (s p : ByteArray) (w : World) (e : Ending) (w' : World) : Prop := e = .returned (.bool (!sLess s p)) ∧ Below w.heap.size w w'

set_option maxHeartbeats 1000000 in
theorem ask_any (R Q b n c i : Nat) (S : Nat → ByteArray) (p : ByteArray) (w : World) (h : Sees w R Q b n c S p) (hi : i < n) (hn : n ≤ 1048576) :
    Calls Tryd.prog 21 #[.int .i64 i, .pointer (some ⟨R, 0, none⟩), .pointer (some ⟨Q, 0, none⟩)] w fun e w' => AskPost (S i) p w e w' := by
  have c1 := h.reps (by omega)
  have c2 := h.name
  have c3 := h.cell i hi
  have hiz : (i : Int) < (n : Int) := by omega
  go_enter Tryd.func21, Tryd.ntmps21
  go_wp2_with fail
  go_quiet (fail)
  go_wp2_with fail
  go_ret
  exact ⟨rfl, below_drewN (Below.refl _ _) _⟩

def SearchPost (n : Nat) (S : Nat → ByteArray) (p : ByteArray) (w : World) (e : Ending) (w' : World) : Prop := ∃ i : Nat, i ≤ n ∧ e = .returned (.int .i64 i) ∧ (∀ j, j < i → sLess (S j) p = true) ∧ (∀ j, i ≤ j → j < n → sLess (S j) p = false) ∧ Below w.heap.size w w'

set_option maxHeartbeats 1000000 in
theorem search_any (R Q b n c : Nat) (S : Nat → ByteArray) (p : ByteArray) (w : World) (h : Sees w R Q b n c S p) (hn : n ≤ 1048576) (hup : ∀ i j, i < j → j < n → sLess (S i) (S j) = true) :
    Calls Tryd.prog 20 #[.int .i64 n, .func (.func 21) #[] #[.pointer (some ⟨R, 0, none⟩), .pointer (some ⟨Q, 0, none⟩)]] w fun e w' => SearchPost n S p w e w' := by
  go_enter Tryd.func20, Tryd.ntmps20
  go_wp2_with fail
  go_loopg [5, 6] n (fun m lo hi wr => ∃ i j : Nat, i ≤ j ∧ j ≤ n ∧ m = j - i ∧ lo = .int .i64 i ∧ hi = .int .i64 j ∧ Hid ((∀ k, k < i → sLess (S k) p = true) ∧ (∀ k, j ≤ k → k < n → sLess (S k) p = false)) ∧ Below w.heap.size w wr)
  case atStart => exact ⟨0, n, Nat.zero_le _, Nat.le_refl _, rfl, rfl, rfl, ⟨fun k hk => absurd hk (Nat.not_lt_zero _), fun k h1 h2 => absurd h2 (by omega)⟩, Below.refl _ _⟩
  case round =>
    obtain ⟨i, j, hij, hjn, rfl, rfl, rfl, HH, hwr⟩ := hrel
    by_cases hlt : i < j
    · have hz : (i : Int) < (j : Int) := by omega
      obtain ⟨q, hq1, hq2⟩ : ∃ q : Nat, 2 * q ≤ i + j ∧ i + j ≤ 2 * q + 1 := ⟨(i + j) / 2, by omega, by omega⟩
      have hqz : ((i : Int) + (j : Int)) / 2 = (q : Int) := by omega
      go_wp2_with fail
      clear hqz
      refine (ask_any R Q b n c q S p wr (h.below hwr) (by omega) hn).mono ?_
      rintro e w1 ⟨rfl, hw1⟩
      have hwr := hwr.trans (hw1.mono hwr.size)
      clear hw1
      cases hs : sLess (S q) p with
      | true =>
        go_wp2_with fail
        go_roundg (j - (q + 1))
        case measure => omega
        case rel =>
          refine ⟨q + 1, j, by omega, hjn, rfl, by go_num, rfl, ⟨fun k hk => ?_, HH.out.2⟩, hwr⟩
          by_cases e : k = q
          · subst e; exact hs
          · exact bl_trans (hup k q (by omega) (by omega)) hs
      | false =>
        go_wp2_with fail
        go_roundg (q - i)
        case measure => omega
        case rel =>
          refine ⟨i, q, by omega, by omega, rfl, rfl, by go_num, ⟨HH.out.1, fun k h1 h2 => ?_⟩, hwr⟩
          by_cases e : k = q
          · subst e; exact hs
          · cases hk : sLess (S k) p with
            | false => rfl
            | true => exact absurd (bl_trans (hup q k (by omega) h2) hk) (by unfold sLess at hs; rw [hs]; simp)
    · have hz : ¬ (i : Int) < (j : Int) := by omega
      obtain rfl : i = j := by omega
      go_wp2_with fail
      go_ret
      exact ⟨i, hjn, rfl, HH.out.1, HH.out.2, hwr⟩

/-- What 'Repository' finds. -/
def FindPost (b n : Nat) (S : Nat → ByteArray) (p : ByteArray) (w : World) (e : Ending) (w' : World) : Prop :=
  ∃ v, e = .returned v ∧ (∀ i, i < n → S i = p → v = .pointer (some ⟨b, i * 6, none⟩)) ∧ ((∀ i, i < n → S i ≠ p) → v = .pointer none) ∧ Below w.heap.size w w'

set_option maxHeartbeats 2000000 in
theorem find_any (I b n c : Nat) (a : Option Addr) (S : Nat → ByteArray) (p : ByteArray) (w : World) (hI : w.cell? ⟨I, 3, none⟩ = some (.slice a n c)) (ha : 0 < n → a = some ⟨b, 0, none⟩) (hcell : ∀ i, i < n → w.cell? ⟨b, i * 6, none⟩ = some (.string (S i))) (hn : n ≤ 1048576) (hup : ∀ i j, i < j → j < n → sLess (S i) (S j) = true) :
    Calls Tryd.prog 16 #[.pointer (some ⟨I, 0, none⟩), .string p] w fun e w' => FindPost b n S p w e w' := by
  have hIa : ∀ o, (w.alloc o).cell? ⟨I, 3, none⟩ = some (.slice a n c) := fun o => by
    have := World.block_lt_of_cell? _ _ hI
    rw [World.cell?_alloc_old _ _ _ (by show I ≠ _; exact Nat.ne_of_lt this)]; exact hI
  go_enter Tryd.func16, Tryd.ntmps16
  go_wp2_with fail
  clear hIa
  have lI := World.block_lt_of_cell? _ _ hI
  have hb0 : Below w.heap.size w ((w.alloc (.cells #[.string p] 9)).alloc (.cells #[.slice a n c] 34)) := ((Below.refl _ _).alloc (Nat.le_refl _) _).alloc (by simp) _
  have cQ : ((w.alloc (.cells #[.string p] 9)).alloc (.cells #[.slice a n c] 34)).cell? ⟨w.heap.size, 0, none⟩ = some (.string p) := by
    rw [World.cell?_alloc_old _ _ _ (by simp)]
    exact World.cell?_alloc_at _ _ _ _ rfl
  have cR : ((w.alloc (.cells #[.string p] 9)).alloc (.cells #[.slice a n c] 34)).cell? ⟨w.heap.size + 1, 0, none⟩ = some (.slice a n c) := by
    rw [show w.heap.size + 1 = (w.alloc (.cells #[.string p] 9)).heap.size by simp]
    exact World.cell?_alloc_at _ _ _ _ rfl
  generalize (w.alloc (.cells #[.string p] 9)).alloc (.cells #[.slice a n c] 34) = wa at hb0 cQ cR ⊢
  have hcs : ∀ i, i < n → wa.cell? ⟨b, i * 6, none⟩ = some (.string (S i)) := fun i hi => by rw [hb0.cell (World.block_lt_of_cell? _ _ (hcell i hi))]; exact hcell i hi
  clear hcell hI lI
  refine (search_any (w.heap.size + 1) w.heap.size b n c S p wa ⟨fun h0 => by rw [cR, ha h0], cQ, hcs⟩ hn hup).mono ?_
  rintro e w2 ⟨i, hin, rfl, hlo, hhi, hw2⟩
  have cR : w2.cell? ⟨w.heap.size + 1, 0, none⟩ = some (.slice a n c) := by rw [hw2.cell (World.block_lt_of_cell? _ _ cR)]; exact cR
  have cQ : w2.cell? ⟨w.heap.size, 0, none⟩ = some (.string p) := by rw [hw2.cell (World.block_lt_of_cell? _ _ cQ)]; exact cQ
  have hcs : ∀ i, i < n → w2.cell? ⟨b, i * 6, none⟩ = some (.string (S i)) := fun i hi => by rw [hw2.cell (World.block_lt_of_cell? _ _ (hcs i hi))]; exact hcs i hi
  have hw := hb0.trans (hw2.mono hb0.size)
  clear hb0 hw2
  have HP : Hid ((∀ j, j < i → sLess (S j) p = true) ∧ (∀ j, i ≤ j → j < n → sLess (S j) p = false) ∧ ∀ i j, i < j → j < n → sLess (S i) (S j) = true) := ⟨hlo, hhi, hup⟩
  clear hlo hhi hup
  have irr : ∀ q : ByteArray, sLess q q = false := fun q => bl_irrefl _
  have HI : Hid (∀ q : ByteArray, sLess q q = false) := irr
  clear irr
  by_cases hi : i < n
  · have hiz : (i : Int) < (n : Int) := by omega
    have hne : ((i : Int) == (n : Int)) = false := by simp; omega
    obtain rfl := ha (by omega)
    have ci := hcs i hi
    clear hcs
    by_cases he : S i = p
    · have hs : ((S i).toList == p.toList) = true := by rw [he]; simp
      go_wp2_with fail
      go_quiet (fail)
      go_wp2_with fail
      go_ret
      refine ⟨_, rfl, fun j hj hS => ?_, fun h => absurd he (h i hi), below_drewN hw _⟩
      have : j = i := by
        rcases Nat.lt_trichotomy j i with h | h | h
        · have := HP.out.2.2 j i h hi
          rw [hS, he, HI.out] at this; cases this
        · exact h
        · have := HP.out.2.2 i j h hj
          rw [hS, he, HI.out] at this; cases this
      subst this
      rfl
    · have hs : ((S i).toList == p.toList) = false := by
        rw [beq_eq_false_iff_ne]
        intro h
        rw [ByteArray.toList_eq, ByteArray.toList_eq] at h
        exact he (Go.WideShapes.bytes_inj h)
      go_wp2_with fail
      go_quiet (fail)
      go_wp2_with fail
      go_ret
      refine ⟨_, rfl, fun j hj hS => ?_, fun _ => rfl, below_drewN hw _⟩
      exfalso
      rcases Nat.lt_trichotomy j i with h | h | h
      · have := HP.out.1 j h
        rw [hS, HI.out] at this; cases this
      · subst h; exact he hS
      · have := HP.out.2.2 i j h hj
        rw [hS, HP.out.2.1 i (Nat.le_refl _) hi] at this; cases this
  · obtain rfl : n = i := by omega
    go_wp2_with fail
    go_quiet (fail)
    go_wp2_with fail
    go_ret
    refine ⟨_, rfl, fun j hj hS => ?_, fun _ => rfl, below_drewN hw _⟩
    have := HP.out.1 j hj
    rw [hS, HI.out] at this; cases this

end Go.Proofs.Qxb6606006aDoor.Ix
