import Derived.Test.Qxb6606006aDoorNum
import Derived.Deep.QuietTactic
import Derived.BigQuiet
namespace Go.Proofs.Qxb6606006aDoor.Ix
open Go.RowKit
set_option linter.unusedVariables false

/-- The section of the data at block g from lo to hi, cut at hi. -/
def sec (g lo hi : Nat) : Value := .slice (some (if hi = lo then ⟨g, 0, none⟩ else ⟨g, lo, none⟩)) (hi - lo) (hi - lo)

def SecPost (g lo hi : Nat) (w : World) (e : Ending) (w' : World) : Prop := e = .returned (sec g lo hi) ∧ ∃ n, w' = w.drewN n

set_option maxHeartbeats 400000 in
theorem sec_any (i : Int) (D O g N lo hi : Nat) (w : World) (h0 : 0 ≤ i) (h6 : i ≤ 6) (hD : w.cell? ⟨D, 0, none⟩ = some (.slice (some ⟨g, 0, none⟩) N N)) (hlo : w.cell? ⟨O, i.toNat, none⟩ = some (.int .i64 lo)) (hhi : w.cell? ⟨O, (i + 1).toNat, none⟩ = some (.int .i64 hi))
    (h1 : lo ≤ hi) (h2 : hi ≤ N) (hN : N ≤ 1048576) :
    Calls Tryd.prog 24 #[.int .i64 i, .pointer (some ⟨D, 0, none⟩), .pointer (some ⟨O, 0, none⟩)] w fun e w' => SecPost g lo hi w e w' := by
  have h1z : (lo : Int) ≤ (hi : Int) := by omega
  have h2z : (hi : Int) ≤ (N : Int) := by omega
  go_enter Tryd.func24, Tryd.ntmps24
  go_wp2
  go_quiet (fail)
  go_wp2
  · go_ret
    refine ⟨?_, _, rfl⟩
    simp [sec]
  · have hne : ¬ hi = lo := by assumption
    go_ret
    refine ⟨?_, _, rfl⟩
    simp [sec, hne]

set_option maxHeartbeats 400000 in
theorem within_any (a : Option Addr) (n c : Nat) (x y : Int) (w : World) (hn : n ≤ 1048576) (hx : 0 ≤ x) (hy : 0 ≤ y) (h : x + y ≤ n) :
    Calls Tryd.prog 26 #[.slice a n c, .int .u64 x, .int .u64 y] w fun e w' => e = .returned (.bool true) ∧ w' = w := by
  have h1 : x ≤ (n : Int) := by omega
  have h2 : y ≤ (n : Int) - x := by omega
  go_enter Tryd.func26, Tryd.ntmps26
  go_wp2
  go_ret
  exact ⟨rfl, rfl⟩

set_option maxHeartbeats 400000 in
theorem numFiles_any (I : Nat) (a : Option Addr) (T c : Nat) (w : World) (hT : 40 * T ≤ 1048576) (h : w.cell? ⟨I, 2, none⟩ = some (.slice a (40 * T) c)) :
    Calls Tryd.prog 25 #[.pointer (some ⟨I, 0, none⟩)] w fun e w' => e = .returned (.int .i64 T) ∧ w' = w := by
  go_enter Tryd.func25, Tryd.ntmps25
  go_wp2
  go_ret
  exact ⟨rfl, rfl⟩

theorem conv14 (g o c : Nat) (w : World) (h : ∀ j, j < 14 → w.cell? ⟨g, o + j, none⟩ = some (.int .u8 (byteAt hdrS j))) :
    (convert 23 9 (.slice (some ⟨g, o, none⟩) 14 c)).run Tryd.prog w = .ok (.string (strOfNums ((List.range 14).map (byteAt hdrS)))) w :=
  run_convert_bytes_arg (P := Tryd.prog) w 23 5 Tryd.underlying23 Tryd.underlying5 g o 14 c _ (by simp) (fun i hi => by rw [h i hi]; congr 2; simp [hi]) 9 Tryd.underlying9

set_option maxHeartbeats 400000 in
theorem equal_any (g o c g' o' c' : Nat) (w : World) (h : ∀ j, j < 14 → w.cell? ⟨g, o + j, none⟩ = some (.int .u8 (byteAt hdrS j))) (h' : ∀ j, j < 14 → w.cell? ⟨g', o' + j, none⟩ = some (.int .u8 (byteAt hdrS j))) :
    Calls Tryd.prog 28 #[.slice (some ⟨g, o, none⟩) 14 c, .slice (some ⟨g', o', none⟩) 14 c'] w fun e w' => e = .returned (.bool true) ∧ w' = w := by
  have k1 := conv14 g o c w h
  have k2 := conv14 g' o' c' w h'
  generalize strOfNums ((List.range 14).map (byteAt hdrS)) = s at k1 k2
  clear h h'
  go_enter Tryd.func28, Tryd.ntmps28
  go_wp2
  go_ret
  exact ⟨rfl, rfl⟩

set_option maxHeartbeats 400000 in
theorem hasPrefix_any (g N c g' c' : Nat) (w : World) (hN : 14 ≤ N) (hc : N ≤ c) (hN2 : N ≤ 1048576) (h : ∀ j, j < 14 → w.cell? ⟨g, 0 + j, none⟩ = some (.int .u8 (byteAt hdrS j))) (h' : ∀ j, j < 14 → w.cell? ⟨g', 0 + j, none⟩ = some (.int .u8 (byteAt hdrS j))) :
    Calls Tryd.prog 22 #[.slice (some ⟨g, 0, none⟩) N c, .slice (some ⟨g', 0, none⟩) 14 c'] w fun e w' => e = .returned (.bool true) ∧ w' = w := by
  have hNz : (14 : Int) ≤ (N : Int) := by omega
  have hcz : (14 : Int) ≤ (c : Int) := by omega
  have hc0 : ¬ c = 0 := by omega
  go_enter Tryd.func22, Tryd.ntmps22
  go_wp2_with fail
  refine (equal_any g 0 _ g' 0 c' w h h').mono ?_
  rintro e w' ⟨rfl, rfl⟩
  go_wp2
  go_ret
  exact ⟨rfl, rfl⟩

end Go.Proofs.Qxb6606006aDoor.Ix
