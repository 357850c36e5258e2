import Derived.Test.Qxb6608517aGet
namespace Go.Proofs.Qxb6608517a.Ob
open Go.RowKit
set_option linter.unusedVariables false
set_option linter.unusedSimpArgs false

theorem nest_any (name : ByteArray) (m : Option Nat) (w : World) : Calls Try.prog 7 #[.string name, .map m] w fun e w' => ObjPost name (.iface 25 (.map m)) w e w' := by
  have hm := run_make26 w
  have hi := fun v => run_insert_new w name v
  go_enter Try.func7, Try.ntmps7
  go_wp2
  go_ret
  exact ⟨w.heap.size, rfl, heap_new _ _, (Below.refl _ _).alloc (Nat.le_refl _) _⟩

theorem objStr_any (name s : ByteArray) (w : World) : Calls Try.prog 12 #[.string name, .string s] w fun e w' => ObjPost name (.iface 9 (.string s)) w e w' := by
  have hm := run_make26 w
  have hi := fun v => run_insert_new w name v
  go_enter Try.func12, Try.ntmps12
  go_wp2
  go_ret
  exact ⟨w.heap.size, rfl, heap_new _ _, (Below.refl _ _).alloc (Nat.le_refl _) _⟩

/-- pre, the number, post. -/
def mixed (n1 : Nat) (S1 : Nat → ByteArray) (num : ByteArray) (S3 : Nat → ByteArray) (i : Nat) : Value := if i < n1 then .iface 9 (.string (S1 i)) else if i = n1 then .iface 41 (.string num) else .iface 9 (.string (S3 (i - n1 - 1)))

set_option maxHeartbeats 2000000 in
theorem objNum_any (name : ByteArray) (a1 : Option Addr) (b1 o1 n1 c1 : Nat) (S1 : Nat → ByteArray) (num : ByteArray) (a3 : Option Addr) (b3 o3 n3 c3 : Nat) (S3 : Nat → ByteArray) (w : World) (h1 : IsStrs w a1 b1 o1 n1 S1) (h3 : IsStrs w a3 b3 o3 n3 S3) (hn1 : n1 ≤ 65536) (hn3 : n3 ≤ 65536) :
    Calls Try.prog 14 #[.string name, .slice a1 n1 c1, .string num, .slice a3 n3 c3] w fun e w' => ObjsPost name (n1 + 1 + n3) (mixed n1 S1 num S3) w e w' := by
  obtain ⟨N, hN⟩ : ∃ N, N = n1 + 1 + n3 := ⟨_, rfl⟩
  have hmk := run_make_row' (P := Try.prog) 37 20 .nilIface 16 Try.underlying37 info20 rfl .i64 .i64 N (by omega) (by omega)
  have hNz : (n1 : Int) + 1 + (n3 : Int) = (N : Int) := by omega
  have l1 : n1 + 1 + n3 ≤ N := by omega
  have l2 : N ≤ n1 + 1 + n3 := by omega
  rw [← hN]
  clear hN
  go_enter Try.func14, Try.ntmps14
  go_wp2_with fail
  clear hmk hNz
  go_loopg [21] n1 (fun m i wr => ∃ k : Nat, k ≤ n1 ∧ m = n1 - k ∧ i = .int .i64 k ∧ wr.rowIs w.heap.size 20 N (fun j => if j < k then .iface 9 (.string (S1 j)) else .nilIface) ∧ Below w.heap.size w wr)
  case atStart => exact ⟨0, Nat.zero_le _, rfl, rfl, (World.rowIs_made w _ N 20).congr (fun j _ => by simp), (Below.refl _ _).alloc (Nat.le_refl _) _⟩
  case round =>
    obtain ⟨k, hk, rfl, rfl, hrow, hbel⟩ := hrel
    by_cases hlt : k < n1
    · have hkz : (k : Int) < (n1 : Int) := by omega
      have hkN : (k : Int) < (N : Int) := by omega
      obtain rfl := h1.top (by omega)
      have g0 := (h1.below hbel).cell k hlt
      have g1 : wr.cell? ⟨w.heap.size, k, none⟩ = some .nilIface := by rw [hrow.cell (by omega), if_neg (by omega)]
      have g2 : wr.frozen? ⟨w.heap.size, k, none⟩ = false := hrow.frozen _
      go_wp2
      go_roundg (n1 - (k + 1))
      case measure => omega
      case rel =>
        refine ⟨k + 1, by omega, rfl, by go_num, (hrow.set _ _).congr (fun j hj => ?_), hbel.setCell (Nat.le_refl _) _⟩
        go_light
        by_cases e : j = k
        · subst e; rw [if_pos rfl, if_pos (by omega)]
        · rw [if_neg e]
          by_cases e2 : j < k
          · rw [if_pos e2, if_pos (by omega)]
          · rw [if_neg e2, if_neg (by omega)]
    · have hkz : ¬ (k : Int) < (n1 : Int) := by omega
      obtain rfl : n1 = k := by omega
      have hkN : (n1 : Int) < (N : Int) := by omega
      have g1 : wr.cell? ⟨w.heap.size, n1, none⟩ = some .nilIface := by rw [hrow.cell (by omega), if_neg (by omega)]
      have g2 : wr.frozen? ⟨w.heap.size, n1, none⟩ = false := hrow.frozen _
      go_wp2
      have hrow2 := hrow.set n1 (.iface 41 (.string num))
      have hbel2 := hbel.setCell (p := ⟨w.heap.size, n1, none⟩) (Nat.le_refl _) (.iface 41 (.string num))
      generalize wr.setCell ⟨w.heap.size, n1, none⟩ (.iface 41 (.string num)) = wm at hrow2 hbel2 ⊢
      clear hrow hbel g1 g2
      go_loopg [41] n3 (fun m i wr => ∃ k : Nat, k ≤ n3 ∧ m = n3 - k ∧ i = .int .i64 k ∧ wr.rowIs w.heap.size 20 N (fun j => if j < n1 + 1 + k then mixed n1 S1 num S3 j else .nilIface) ∧ Below w.heap.size w wr)
      case atStart =>
        refine ⟨0, Nat.zero_le _, rfl, rfl, hrow2.congr (fun j hj => ?_), hbel2⟩
        by_cases e : j = n1
        · subst e; rw [if_pos rfl, if_pos (by omega)]; unfold mixed; rw [if_neg (by omega), if_pos rfl]
        · rw [if_neg e]
          by_cases e2 : j < n1
          · rw [if_pos e2, if_pos (by omega)]; unfold mixed; rw [if_pos e2]
          · rw [if_neg e2, if_neg (by omega)]
      case round =>
        obtain ⟨k, hk, rfl, rfl, hrow, hbel⟩ := hrel
        clear hrow2 hbel2
        by_cases hlt : k < n3
        · have hkz : (k : Int) < (n3 : Int) := by omega
          have hkN : (n1 : Int) + 1 + (k : Int) < (N : Int) := by omega
          obtain rfl := h3.top (by omega)
          have g0 := (h3.below hbel).cell k hlt
          have g1 : wr.cell? ⟨w.heap.size, n1 + 1 + k, none⟩ = some .nilIface := by rw [hrow.cell (by omega), if_neg (by omega)]
          have g2 : wr.frozen? ⟨w.heap.size, n1 + 1 + k, none⟩ = false := hrow.frozen _
          go_wp2
          go_roundg (n3 - (k + 1))
          case measure => omega
          case rel =>
            refine ⟨k + 1, by omega, rfl, by go_num, (hrow.set _ _).congr (fun j hj => ?_), hbel.setCell (Nat.le_refl _) _⟩
            go_light
            by_cases e : j = n1 + 1 + k
            · subst e; rw [if_pos rfl, if_pos (by omega)]; unfold mixed; rw [if_neg (by omega), if_neg (by omega), show n1 + 1 + k - n1 - 1 = k by omega]
            · rw [if_neg e]
              by_cases e2 : j < n1 + 1 + k
              · rw [if_pos e2, if_pos (by omega)]
              · rw [if_neg e2, if_neg (by omega)]
        · have hkz : ¬ (k : Int) < (n3 : Int) := by omega
          obtain rfl : n3 = k := by omega
          have hm := run_make26 wr
          have hi := fun v => run_insert_new wr name v
          go_wp2
          go_ret
          refine ⟨wr.heap.size, w.heap.size, rfl, heap_new _ _, (hrow.congr (fun j hj => by rw [if_pos (by omega)])).alloc _, hbel.alloc hbel.size _⟩

end Go.Proofs.Qxb6608517a.Ob
