import Derived.Test.Qxb6608517aDoorObj
import Derived.ProofKit
import Derived.OpenShut
import Derived.LaidMore
import Derived.Stop.Joined
import Derived.SliceStrings
import Derived.ChangeMaps5
namespace Go.Proofs.Qxb6608517aDoor.Ob
open Go.ChangeShapes Go.WideShapes Go.ChangeAt Go.RowKit
set_option linter.unusedVariables false

theorem own : ownKnob Tryd.prog.godebug = none := by kernel_rfl
theorem laidOut : laidOutB Tryd.prog = true := by kernel_rfl
theorem cells9 : Tryd.prog.cellsOf 9 = 1 := by kernel_rfl

theorem strs_of {H : Type} {enc : TypeId × Value → H} {W : World} {a : Option Addr} {n c : Nat} {d : DataW H} {p : List MemPlace} (h : DataW.Trod enc Tryd.prog W 0 (fun _ => true) true 29 (.slice a n c) d p) :
    ∃ b o S, IsStrs W a b o n S ∧ n ≤ maxLen ∧ ∀ i, i < n → (S i).size ≤ maxLen := by
  obtain ⟨m, hm⟩ := h
  have hm : DataW.trod enc Tryd.prog W 0 (fun _ => true) true m 29 [.slice a n c] = some (d, p) := hm
  rcases open_strings Tryd.underlying29 Tryd.underlying9 cells9 hm with ⟨hcs, hx⟩ | ⟨a', len', cap', ss, hcs, _, hl, hmx, hz, hx, hcell, hsz⟩
  · simp at hcs
    obtain ⟨rfl, rfl, rfl⟩ := hcs
    exact ⟨0, 0, fun _ => ByteArray.empty, ⟨fun h => absurd h (Nat.lt_irrefl _), fun i hi => absurd hi (Nat.not_lt_zero _)⟩, Nat.zero_le _, fun i hi => absurd hi (Nat.not_lt_zero _)⟩
  · simp at hcs
    obtain ⟨rfl, rfl, rfl⟩ := hcs
    have hz : ss.length = c := by simpa using hz
    obtain ⟨b, o, s⟩ := a'
    refine ⟨b, o, fun i => ss.getD i ByteArray.empty, ⟨fun h0 => ?_, fun i hi => ?_⟩, by omega, fun i hi => ?_⟩
    · have := World.cell?_spot (hcell 0 (by omega))
      have hs : s = none := by simpa [Addr.add] using this
      rw [hs]
    · have h1 := hcell i (by omega)
      have := World.cell?_spot (hcell 0 (by omega))
      have hs : s = none := by simpa [Addr.add] using this
      subst hs
      rw [Go.WideShapes.add_plain] at h1
      exact h1
    · refine hsz _ ?_
      have hi' : i < ss.length := by omega
      simp [List.getD, hi']

end Go.Proofs.Qxb6608517aDoor.Ob
