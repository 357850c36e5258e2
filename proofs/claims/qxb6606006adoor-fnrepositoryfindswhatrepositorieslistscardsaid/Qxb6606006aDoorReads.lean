import Derived.Test.Qxb6606006aDoorRows
import Derived.Test.Qxb6606006aDoorBase
import Derived.ProofKit
import Derived.LaidMore
import Derived.OpenShut
import Derived.SliceStrings
import Derived.WalkSmall
import Derived.Stop.Joined
namespace Go.Proofs.Qxb6606006aDoor.Ix
open Go.ChangeShapes Go.WideShapes Go.ChangeAt Go.RowKit
set_option linter.unusedVariables false

theorem own : ownKnob Tryd.prog.godebug = none := by kernel_rfl
theorem laidOut : laidOutB Tryd.prog = true := by kernel_rfl
theorem gFmt : Tryd.prog.globalNamed "example.com/cairn/cairn/index.errFormat" = some 0 := by kernel_rfl
theorem gDam : Tryd.prog.globalNamed "example.com/cairn/cairn/index.ErrDamaged" = some 2 := by kernel_rfl
theorem tFmt : (Tryd.prog.globals[0]?).map (·.type) = some 32 := by kernel_rfl
theorem tDam : (Tryd.prog.globals[2]?).map (·.type) = some 32 := by kernel_rfl
theorem cells9 : Tryd.prog.cellsOf 9 = 1 := by kernel_rfl
theorem cells5 : Tryd.prog.cellsOf 5 = 1 := by kernel_rfl

theorem strs_of {H : Type} {enc : TypeId × Value → H} {W : World} {a : Option Addr} {n c : Nat} {d : DataW H} {p : List MemPlace} (h : DataW.Trod enc Tryd.prog W 0 (fun _ => true) true 22 (.slice a n c) d p) :
    ∃ b o S, IsStrs W a b o n S ∧ n ≤ maxLen ∧ ∀ i, i < n → (S i).size ≤ maxLen := by
  obtain ⟨m, hm⟩ := h
  have hm : DataW.trod enc Tryd.prog W 0 (fun _ => true) true m 22 [.slice a n c] = some (d, p) := hm
  rcases open_strings Tryd.underlying22 Tryd.underlying9 cells9 hm with ⟨hcs, hx⟩ | ⟨a', len', cap', ss, hcs, _, hl, hmx, hz, hx, hcell, hsz⟩
  · simp at hcs
    obtain ⟨rfl, rfl, rfl⟩ := hcs
    exact ⟨0, 0, fun _ => ByteArray.empty, ⟨fun h => absurd h (Nat.lt_irrefl _), fun i hi => absurd hi (Nat.not_lt_zero _)⟩, Nat.zero_le _, fun i hi => absurd hi (Nat.not_lt_zero _)⟩
  · simp at hcs
    obtain ⟨rfl, rfl, rfl⟩ := hcs
    have hz : ss.length = c := by simpa using hz
    obtain ⟨b, o, s⟩ := a'
    refine ⟨b, o, fun i => ss.getD i ByteArray.empty, ⟨fun h0 => ?_, fun i hi => ?_⟩, by omega, fun i hi => ?_⟩
    · have := World.cell?_spot (hcell 0 (by omega))
      have hs : s = none := by simpa [Addr.add] using this
      rw [hs]
    · have h1 := hcell i (by omega)
      have := World.cell?_spot (hcell 0 (by omega))
      have hs : s = none := by simpa [Addr.add] using this
      subst hs
      rw [Go.WideShapes.add_plain] at h1
      exact h1
    · refine hsz _ ?_
      have hi' : i < ss.length := by omega
      simp [List.getD, hi']

theorem nums_of {H : Type} {enc : TypeId × Value → H} {W : World} {a : Option Addr} {n c : Nat} {d : DataW H} {p : List MemPlace} (h : DataW.Trod enc Tryd.prog W 0 (fun _ => true) true 23 (.slice a n c) d p) :
    ∃ b o K, IsNums W a b o n K ∧ n ≤ maxLen ∧ ∀ i, i < n → 0 ≤ K i ∧ K i ≤ 255 := by
  obtain ⟨m, hm⟩ := h
  have hm : DataW.trod enc Tryd.prog W 0 (fun _ => true) true m 23 [.slice a n c] = some (d, p) := hm
  rcases open_ints Tryd.underlying23 Tryd.underlying5 cells5 hm with ⟨hcs, hx⟩ | ⟨a', len', cap', zs, hcs, _, hl, hmx, hz, hx, hcell, hwf⟩
  · simp at hcs
    obtain ⟨rfl, rfl, rfl⟩ := hcs
    exact ⟨0, 0, fun _ => 0, ⟨fun h => absurd h (Nat.lt_irrefl _), fun i hi => absurd hi (Nat.not_lt_zero _)⟩, Nat.zero_le _, fun i hi => absurd hi (Nat.not_lt_zero _)⟩
  · simp at hcs
    obtain ⟨rfl, rfl, rfl⟩ := hcs
    have hz : zs.length = c := by simpa using hz
    obtain ⟨b, o, s⟩ := a'
    refine ⟨b, o, fun i => zs.getD i 0, ⟨fun h0 => ?_, fun i hi => ?_⟩, by omega, fun i hi => ?_⟩
    · have := World.cell?_spot (hcell 0 (by omega))
      have hs : s = none := by simpa [Addr.add] using this
      rw [hs]
    · have h1 := hcell i (by omega)
      have := World.cell?_spot (hcell 0 (by omega))
      have hs : s = none := by simpa [Addr.add] using this
      subst hs
      rw [Go.WideShapes.add_plain] at h1
      exact h1
    · have hi' : i < zs.length := by omega
      have hw := hwf (zs.getD i 0) (by simp [List.getD, hi'])
      have hb := bounds_u8 hw
      simp at hb ⊢
      omega

/-- The two listed variables read behind the call as they did. -/
theorem vars_back {H : Type} {enc : TypeId × Value → H} {W W' : World} {gs : List (DataW H)} {q : List MemPlace} {sp : Nat → Bool}
    (h : DataW.TrodVars enc Tryd.prog W (fun _ => true) ["example.com/cairn/cairn/index.errFormat", "example.com/cairn/cairn/index.ErrDamaged"] gs q) (hb : Below W.heap.size W W') :
    ∃ d0 d1, gs = [d0, d1] ∧ DataW.TrodVars enc Tryd.prog W' sp ["example.com/cairn/cairn/index.errFormat", "example.com/cairn/cairn/index.ErrDamaged"] [d0, d1] q := by
  obtain ⟨g0, t0, cs0, f0, d0, p0, g1, t1, cs1, f1, d1, p1, rfl, hg0, ht0, hv0, hd0, hg1, ht1, hv1, hd1, rfl⟩ := trodVars_two h
  obtain rfl := Option.some.inj (gFmt.symm.trans hg0)
  obtain rfl := Option.some.inj (gDam.symm.trans hg1)
  obtain rfl := Option.some.inj (tFmt.symm.trans ht0)
  obtain rfl := Option.some.inj (tDam.symm.trans ht1)
  obtain ⟨x0, rfl, i0, rfl, rfl, c0⟩ := token_of gFmt Tryd.underlying32 hv0 hd0
  obtain ⟨x1, rfl, i1, rfl, rfl, c1⟩ := token_of gDam Tryd.underlying32 hv1 hd1
  refine ⟨_, _, rfl, ?_⟩
  exact ⟨0, 32, #[x0], 1, [], _, gFmt, tFmt, var?_below hb gFmt (World.block_lt_of_cell? _ _ c0) hv0, trod_held Tryd.underlying32 i0 0, ⟨2, 32, #[x1], 1, [], [], gDam, tDam, var?_below hb gDam (World.block_lt_of_cell? _ _ c1) hv1, trod_held Tryd.underlying32 i1 0, rfl, rfl⟩, by simp⟩

end Go.Proofs.Qxb6606006aDoor.Ix
