import Derived.Test.Qxb6606006aLaw
import Derived.ProofKit
import Derived.OpenShut
import Derived.ShutString
import Derived.ChangeOld
import Derived.Deep.Matrix
namespace Go.Proofs.Qxb6606006a.Post
open Go.ChangeShapes Go.WideShapes Go.ChangeAt Go.RowKit Go.Deep
set_option linter.unusedVariables false

theorem own : ownKnob Try.prog.godebug = none := by kernel_rfl
theorem laidOut : laidOutB Try.prog = true := by kernel_rfl

/-- The lists as they came in. -/
theorem lists_of {H : Type} {enc : TypeId × Value → H} {W : World} {a0 : Option Addr} {len cap : Nat} {d : DataW H} {p : List MemPlace}
    (h : DataW.Trod enc Try.prog W 0 (fun _ => true) true 22 (.slice a0 len cap) d p) :
    ∃ gb go A L C RB RO Z, IsLists W a0 gb go len A L C RB RO Z ∧ len ≤ maxLen ∧ (∀ r, r < len → L r ≤ maxLen) ∧ ∀ r, r < len → ∀ c, c < L r → 0 ≤ Z r c ∧ Z r c < 4294967296 := by
  obtain ⟨fuel, hf⟩ := h
  rcases open_int_rows Try.underlying22 Try.underlying25 Try.underlying23 (by kernel_rfl) (by kernel_rfl) hf with ⟨hcs, _⟩ | ⟨a, len', cap', A, L, C, Z, hcs, _, hl, hm, _, hr⟩
  · simp [Value.cells] at hcs
    obtain ⟨rfl, rfl, rfl⟩ := hcs
    exact ⟨0, 0, fun _ => none, fun _ => 0, fun _ => 0, fun _ => 0, fun _ => 0, fun _ _ => 0, ⟨fun h => absurd h (Nat.lt_irrefl _), fun r hr => absurd hr (Nat.not_lt_zero _), fun r hr => absurd hr (Nat.not_lt_zero _)⟩, Nat.zero_le _, fun r hr => absurd hr (Nat.not_lt_zero _), fun r hr => absurd hr (Nat.not_lt_zero _)⟩
  · simp [Value.cells] at hcs
    obtain ⟨rfl, rfl, rfl⟩ := hcs
    have spot : ∀ {x : Addr} {v : Value}, W.cell? (x.add 0) = some v → ∀ j, x.add j = ⟨x.block, x.off + j, none⟩ ∧ x = ⟨x.block, x.off, none⟩ := by
      intro x v hx j
      obtain ⟨b, o, s⟩ := x
      have hs : s = none := by
        have := World.cell?_spot hx
        simpa [Addr.add] using this
      subst hs
      exact ⟨by unfold Addr.add; split <;> simp_all, rfl⟩
    refine ⟨a.block, a.off, A, L, C, fun r => ((A r).getD ⟨0, 0, none⟩).block, fun r => ((A r).getD ⟨0, 0, none⟩).off, fun r c => (Z r).getD c 0, ⟨fun h0 => ?_, fun r hrl => ?_, fun r hrl c hc => ?_⟩, by omega, fun r hrl => ?_, fun r hrl c hc => ?_⟩
    · rw [← (spot (hr 0 (by omega)).1 0).2]
    · obtain ⟨h1, _⟩ := hr r (by omega)
      rw [(spot (hr 0 (by omega)).1 r).1] at h1
      exact h1
    · obtain ⟨h1, h2, h3, h4, h5, h6, h7⟩ := hr r (by omega)
      cases hA : A r with
      | none => have := h6 hA; omega
      | some x =>
        have h8 := (h7 x hA).2 c (by omega)
        have h9 := (h7 x hA).2 0 (by omega)
        refine ⟨?_, ?_⟩
        · simp only [Option.getD_some]; rw [← (spot h9 c).2]
        · rw [(spot h9 c).1] at h8
          exact h8
    · obtain ⟨h1, h2, h3, _⟩ := hr r (by omega)
      omega
    · obtain ⟨h1, h2, h3, h4, h5, _⟩ := hr r (by omega)
      have hc' : c < (Z r).length := by omega
      have hw := h5 ((Z r).getD c 0) (by simp [List.getD, hc'])
      have hb := bounds_u32 hw
      exact ⟨by simpa using hb.1, by have := hb.2; simp at this ⊢; omega⟩

set_option maxRecDepth 100000 in
theorem lifted (os : Os) (started : os.Started) (H : Type) (enc : TypeId × Value → H) :
    ReturnsInHanded {} Try.checked os 3 .any (Rows.fnPostingsOfTrigramAreFilesHoldingItSpec.pre6 enc Try.prog Try.f3 Rows.fnPostingsOfTrigramAreFilesHoldingItRow.domain false) (Rows.fnPostingsOfTrigramAreFilesHoldingItSpec.post enc Try.prog Try.f3 false true false false) := by
  refine returnsInHanded_of_change (C := Try.checked) own started (by kernel_rfl) Try.func3
    (ChangeSpec.witness6 (enc := enc) (C := Try.checked) false ⟨#[], #[.int .i64 0, .slice none 0 0, .int .u32 0], []⟩ 8 (by kernel_rfl) (by kernel_rfl) (by kernel_rfl) (by kernel_rfl)) ?_
  intro W base args ds gs before hval0 hW hcnd _
  have hval : ∀ (j : Nat) t v, Try.f3.params[j]? = some t → args[j]? = some v → Value.okWide Try.prog W .any base t v := hval0
  have hW' := hW
  obtain ⟨p, q, hA0, hV, rfl, hfz, hnd⟩ := hW
  have hA : DataW.TrodAll enc Try.prog W 0 (fun _ => true) true Try.f3.params.toList args.toList ds p := hA0
  rw [Try.params3] at hA hval
  obtain ⟨v0, vs0, d0, ds0, p0, q0, hargs, rfl, rfl, h0, r0⟩ := trodAll_cons hA
  obtain ⟨v1, vs1, d1, ds1, p1, q1, rfl, rfl, rfl, h1, r1⟩ := trodAll_cons r0
  obtain ⟨v2, vs2, d2, ds2, p2, q2, rfl, rfl, rfl, h2, r2⟩ := trodAll_cons r1
  obtain ⟨rfl, rfl, rfl⟩ := trodAll_nil r2
  obtain rfl : args = #[v0, v1, v2] := by cases args; simp_all
  obtain ⟨rfl, rfl⟩ := trodVars_none hV
  obtain ⟨a0, rfl, rfl, rfl, w0⟩ := open_int Try.underlying3 (hval 0 3 v0 rfl rfl) h0
  obtain ⟨a1, len1, cap1, rfl⟩ := okWide_slice Try.underlying22 (hval 1 22 v1 rfl rfl)
  have k1 := h1
  have lt1 : ∀ x ∈ p1, x.block < W.heap.size := by obtain ⟨m, hm⟩ := k1; exact DataW.trod_lt m _ _ _ hm
  obtain ⟨a2, rfl, rfl, rfl, w2⟩ := open_int Try.underlying23 (hval 2 23 v2 rfl rfl) h2
  obtain ⟨gb, go, A, L, C, RB, RO, Z, hls, hG, hL, hZ⟩ := lists_of h1
  have b0 := bounds_i64 w0
  have b2 := bounds_u32 w2
  clear hA0 hval0
  refine (law_walk a0 a2 a1 gb go len1 cap1 A L C RB RO Z W hls hG hL (by omega) (by omega) (by omega) (by omega) hZ).mono fun e W' ⟨he, bel⟩ => ?_
  subst he
  exact ⟨_, rfl, _, _, _, [], _, [], hW', trodAll_mk1 (shut_bool Try.underlying4 _), (trodAll_cons_mk (shut_int Try.underlying3 w0) (trodAll_cons_mk (Below.trod laidOut (by kernel_rfl) (of_decide_eq_true (by kernel_rfl)) k1 bel lt1) (trodAll_cons_mk (shut_int Try.underlying23 w2) trodAll_mk0))), rfl, bel.frame _, fun h => by cases h⟩

theorem over : Rows.fnPostingsOfTrigramAreFilesHoldingItRow.holds Try.pinned (OpenSpec.ofChange Rows.fnPostingsOfTrigramAreFilesHoldingItSpec) :=
  OpenClaim.holds_of_wide 3 Try.f3 rfl rfl rfl rfl rfl rfl rfl ⟨rfl, rfl, rfl, rfl, rfl⟩ rfl rfl rfl rfl rfl (by kernel_rfl) Try.func3 (by kernel_rfl)
    (of_decide_eq_true (by kernel_rfl)) (by unfold Func.isWrapper; first | (rw [if_pos (by decide +kernel)]; kernel_rfl) | (rw [if_neg (by decide +kernel)]; exact ⟨rfl, rfl⟩))
    (fun os started H enc _ => lifted os started H enc)

/-- THE STATEMENT -/
theorem proved : Rows.FnPostingsOfTrigramAreFilesHoldingItSaid := over
end Go.Proofs.Qxb6606006a.Post
