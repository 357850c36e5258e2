import Derived.Test.Qxb6608517aDoorObj
namespace Go.Proofs.Qxb6608517aDoor.Ob
open Go.RowKit
set_option linter.unusedVariables false
set_option linter.unusedSimpArgs false

theorem as_arr (x : Value) (w : World) : (Instr.typeAssert (.iface 49 x) 20 49 true).run Tryd.prog w = .ok (.tuple #[x, .bool true]) w := by kernel_rfl
theorem as_arr_nil (w : World) : (Instr.typeAssert .nilIface 20 49 true).run Tryd.prog w = .ok (.tuple #[.slice none 0 0, .bool false]) w := by kernel_rfl
theorem as_str (x : Value) (w : World) : (Instr.typeAssert (.iface 9 x) 20 9 true).run Tryd.prog w = .ok (.tuple #[x, .bool true]) w := by kernel_rfl
theorem as_str_num (x : Value) (w : World) : (Instr.typeAssert (.iface 43 x) 20 9 true).run Tryd.prog w = .ok (.tuple #[.string ⟨#[]⟩, .bool false]) w := by kernel_rfl
theorem as_map (x : Value) (w : World) : (Instr.typeAssert (.iface 25 x) 20 25 true).run Tryd.prog w = .ok (.tuple #[x, .bool true]) w := by kernel_rfl
theorem as_map_nil (w : World) : (Instr.typeAssert .nilIface 20 25 true).run Tryd.prog w = .ok (.tuple #[.map none, .bool false]) w := by kernel_rfl
theorem as_map_arr (x : Value) (w : World) : (Instr.typeAssert (.iface 49 x) 20 25 true).run Tryd.prog w = .ok (.tuple #[.map none, .bool false]) w := by kernel_rfl
theorem as_map_str (x : Value) (w : World) : (Instr.typeAssert (.iface 9 x) 20 25 true).run Tryd.prog w = .ok (.tuple #[.map none, .bool false]) w := by kernel_rfl

def IsV (e : Ending) (v : Value) (w w' : World) : Prop := e = .returned v ∧ w' = w

/-- Object finds a nested object. -/
theorem obj_hit (m : Nat) (s : ByteArray) (x : Value) (w : World) (hm : w.heap[m]? = some (oneMap s (.iface 25 x))) :
    Calls Tryd.prog 15 #[.map (some m), .string s] w fun e w' => IsV e (.tuple #[x, .bool true]) w w' := by
  have hl := run_look w m s s _ hm
  rw [if_pos rfl] at hl
  have ha := as_map x w
  go_enter Tryd.func15, Tryd.ntmps15
  go_wp2
  go_ret2
  exact ⟨rfl, rfl⟩
/-- Object refuses an array. -/
theorem obj_arr (m : Nat) (s : ByteArray) (x : Value) (w : World) (hm : w.heap[m]? = some (oneMap s (.iface 49 x))) :
    Calls Tryd.prog 15 #[.map (some m), .string s] w fun e w' => IsV e (.tuple #[.map none, .bool false]) w w' := by
  have hl := run_look w m s s _ hm
  rw [if_pos rfl] at hl
  have ha := as_map_arr x w
  go_enter Tryd.func15, Tryd.ntmps15
  go_wp2
  go_ret2
  exact ⟨rfl, rfl⟩
/-- Object refuses a string. -/
theorem obj_str (m : Nat) (s : ByteArray) (x : Value) (w : World) (hm : w.heap[m]? = some (oneMap s (.iface 9 x))) :
    Calls Tryd.prog 15 #[.map (some m), .string s] w fun e w' => IsV e (.tuple #[.map none, .bool false]) w w' := by
  have hl := run_look w m s s _ hm
  rw [if_pos rfl] at hl
  have ha := as_map_str x w
  go_enter Tryd.func15, Tryd.ntmps15
  go_wp2
  go_ret2
  exact ⟨rfl, rfl⟩
/-- Object refuses an absent name. -/
theorem obj_miss (m : Nat) (s p : ByteArray) (x : Value) (w : World) (hp : p ≠ s) (hm : w.heap[m]? = some (oneMap s x)) :
    Calls Tryd.prog 15 #[.map (some m), .string p] w fun e w' => IsV e (.tuple #[.map none, .bool false]) w w' := by
  have hl := run_look w m s p _ hm
  rw [if_neg hp] at hl
  have ha := as_map_nil w
  go_enter Tryd.func15, Tryd.ntmps15
  go_wp2
  go_ret2
  exact ⟨rfl, rfl⟩

/-- Strings refuses an absent name. -/
theorem strs_miss (m : Nat) (s p : ByteArray) (x : Value) (w : World) (hp : p ≠ s) (hm : w.heap[m]? = some (oneMap s x)) :
    Calls Tryd.prog 13 #[.map (some m), .string p] w fun e w' => IsV e (.tuple #[.slice none 0 0, .bool false]) w w' := by
  have hl := run_look w m s p _ hm
  rw [if_neg hp] at hl
  have ha := as_arr_nil w
  go_enter Tryd.func13, Tryd.ntmps13
  go_wp2
  go_ret2
  exact ⟨rfl, rfl⟩

def StrsPost (n : Nat) (S : Nat → ByteArray) (w : World) (e : Ending) (w' : World) : Prop := ∃ b, e = .returned (.tuple #[.slice (some ⟨b, 0, none⟩) n n, .bool true]) ∧ w'.rowIs b 9 n (fun i => .string (S i)) ∧ w.heap.size ≤ b ∧ Below w.heap.size w w'
def NoStrsPost (w : World) (e : Ending) (w' : World) : Prop := e = .returned (.tuple #[.slice none 0 0, .bool false]) ∧ Below w.heap.size w w'

set_option maxHeartbeats 1000000 in
theorem strs_good (m g n : Nat) (s : ByteArray) (S : Nat → ByteArray) (w : World) (hn : n ≤ 1048576) (hm : w.heap[m]? = some (oneMap s (.iface 49 (.slice (some ⟨g, 0, none⟩) n n)))) (hg : w.rowIs g 20 n (fun i => .iface 9 (.string (S i)))) :
    Calls Tryd.prog 13 #[.map (some m), .string s] w fun e w' => StrsPost n S w e w' := by
  have hl := run_look w m s s _ hm
  rw [if_pos rfl] at hl
  have ha := as_arr (.slice (some ⟨g, 0, none⟩) n n) w
  have hmk := run_make_row' (P := Tryd.prog) 29 9 (.string ⟨#[]⟩) 16 Tryd.underlying29 info9 rfl .i64 .i64 n (by omega) (by omega)
  go_enter Tryd.func13, Tryd.ntmps13
  go_wp2
  clear hmk hl ha
  go_loopg [25] n (fun m i wr => ∃ k : Nat, k ≤ n ∧ m = n - k ∧ i = .int .i64 k ∧ wr.rowIs w.heap.size 9 n (fun j => .string (if j < k then S j else ⟨#[]⟩)) ∧ Below w.heap.size w wr)
  case atStart => exact ⟨0, Nat.zero_le _, rfl, rfl, (World.rowIs_made w _ n 9).congr (fun j _ => by simp), (Below.refl _ _).alloc (Nat.le_refl _) _⟩
  case round =>
    obtain ⟨k, hk, rfl, rfl, hrow, hbel⟩ := hrel
    by_cases hlt : k < n
    · have hkz : (k : Int) < (n : Int) := by omega
      have g0 : wr.cell? ⟨g, k, none⟩ = some (.iface 9 (.string (S k))) := (hg.of_block (hbel.block _ hg.lt)).cell hlt
      have g1 : wr.cell? ⟨w.heap.size, k, none⟩ = some (.string ⟨#[]⟩) := by rw [hrow.cell hlt, if_neg (by omega)]
      have g2 : wr.frozen? ⟨w.heap.size, k, none⟩ = false := hrow.frozen _
      have ha := as_str (.string (S k)) wr
      go_wp2
      go_roundg (n - (k + 1))
      case measure => omega
      case rel =>
        refine ⟨k + 1, by omega, rfl, by go_num, (hrow.set _ _).congr (fun j hj => ?_), hbel.setCell (Nat.le_refl _) _⟩
        go_light
        by_cases e : j = k
        · subst e; rw [if_pos rfl, if_pos (by omega)]
        · rw [if_neg e]
          by_cases e2 : j < k
          · rw [if_pos e2, if_pos (by omega)]
          · rw [if_neg e2, if_neg (by omega)]
    · have hkz : ¬ (k : Int) < (n : Int) := by omega
      obtain rfl : k = n := by omega
      go_wp2
      go_ret2
      exact ⟨w.heap.size, rfl, hrow.congr (fun j hj => by rw [if_pos hj]), Nat.le_refl _, hbel⟩

set_option maxHeartbeats 1000000 in
theorem strs_bad (m g n q : Nat) (s num : ByteArray) (T : Nat → Value) (S : Nat → ByteArray) (w : World) (hn : n ≤ 1048576) (hm : w.heap[m]? = some (oneMap s (.iface 49 (.slice (some ⟨g, 0, none⟩) n n)))) (hg : w.rowIs g 20 n T) (hq : q < n) (hT : ∀ i, i < q → T i = .iface 9 (.string (S i))) (hTq : T q = .iface 43 (.string num)) :
    Calls Tryd.prog 13 #[.map (some m), .string s] w fun e w' => NoStrsPost w e w' := by
  have hl := run_look w m s s _ hm
  rw [if_pos rfl] at hl
  have ha := as_arr (.slice (some ⟨g, 0, none⟩) n n) w
  have hmk := run_make_row' (P := Tryd.prog) 29 9 (.string ⟨#[]⟩) 16 Tryd.underlying29 info9 rfl .i64 .i64 n (by omega) (by omega)
  have HT : Hid ((∀ i, i < q → T i = .iface 9 (.string (S i))) ∧ T q = .iface 43 (.string num)) := ⟨hT, hTq⟩
  clear hT hTq
  go_enter Tryd.func13, Tryd.ntmps13
  go_wp2
  clear hmk hl ha
  go_loopg [25] n (fun m i wr => ∃ k : Nat, k ≤ q ∧ m = n - k ∧ i = .int .i64 k ∧ (∃ V, wr.rowIs w.heap.size 9 n V) ∧ Below w.heap.size w wr)
  case atStart => exact ⟨0, Nat.zero_le _, rfl, rfl, ⟨_, World.rowIs_made w _ n 9⟩, (Below.refl _ _).alloc (Nat.le_refl _) _⟩
  case round =>
    obtain ⟨k, hk, rfl, rfl, ⟨V, hrow⟩, hbel⟩ := hrel
    have hkz : (k : Int) < (n : Int) := by omega
    have g0 : wr.cell? ⟨g, k, none⟩ = some (T k) := (hg.of_block (hbel.block _ hg.lt)).cell (by omega)
    have g1 : wr.cell? ⟨w.heap.size, k, none⟩ = some (V k) := hrow.cell (by omega)
    have g2 : wr.frozen? ⟨w.heap.size, k, none⟩ = false := hrow.frozen _
    by_cases hlt : k < q
    · rw [HT.out.1 k hlt] at g0
      have ha := as_str (.string (S k)) wr
      go_wp2
      go_roundg (n - (k + 1))
      case measure => omega
      case rel => exact ⟨k + 1, by omega, rfl, by go_num, ⟨_, hrow.set _ _⟩, hbel.setCell (Nat.le_refl _) _⟩
    · obtain rfl : q = k := by omega
      rw [HT.out.2] at g0
      have ha := as_str_num (.string num) wr
      go_wp2
      go_ret2
      exact ⟨rfl, hbel.setCell (Nat.le_refl _) _⟩

end Go.Proofs.Qxb6608517aDoor.Ob
