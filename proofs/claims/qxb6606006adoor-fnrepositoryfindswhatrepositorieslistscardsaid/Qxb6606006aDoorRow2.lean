import Derived.Test.Qxb6606006aDoorReads
import Derived.Test.Qxb6606006aDoorCards
import Derived.Test.Qxb6606006aDoorTie
import Derived.SevenTiedAt
namespace Go.Proofs.Qxb6606006aDoor.Ix
open Go.ChangeShapes Go.WideShapes Go.ChangeAt Go.RowKit
set_option linter.unusedVariables false

theorem door_met2 (os : Os) (args : Array Value) : laidMetH Tryd.prog Rows.fnRepositoryFindsWhatRepositoriesListsRow.laid ((World.doorLaid Tryd.prog 400 os).forCall (fun _ _ => 0) ⟨#[], args, []⟩).memory :=
  laidMetH_of_parts3 (fuel := 8) (laidMet_of_run' 8 (by kernel_rfl) (by kernel_rfl)) (by kernel_rfl) (by kernel_rfl)

/-- What the walk gives. -/
def MainOK2 : Prop := ∀ (a0 : Option Addr) (b0 o0 n0 c0 : Nat) (S0 : Nat → ByteArray) (a1 : Option Addr) (b1 o1 n1 c1 : Nat) (S1 : Nat → ByteArray) (a2 : Option Addr) (b2 o2 n2 c2 : Nat) (S2 : Nat → ByteArray) (a3 : Option Addr) (b3 o3 n3 c3 : Nat) (K : Nat → Int) (w : World)
    (h0 : IsStrs w a0 b0 o0 n0 S0) (hn0 : n0 ≤ maxLen) (hs0 : ∀ i, i < n0 → (S0 i).size ≤ maxLen) (h1 : IsStrs w a1 b1 o1 n1 S1) (hn1 : n1 ≤ maxLen) (hs1 : ∀ i, i < n1 → (S1 i).size ≤ maxLen) (h2 : IsStrs w a2 b2 o2 n2 S2) (hn2 : n2 ≤ maxLen) (hs2 : ∀ i, i < n2 → (S2 i).size ≤ maxLen)
    (h3 : IsNums w a3 b3 o3 n3 K) (hn3 : n3 ≤ maxLen) (hK : ∀ i, i < n3 → 0 ≤ K i ∧ K i ≤ 255) (s4 : ByteArray) (hz4 : s4.size ≤ maxLen), Calls Tryd.prog 4 #[.slice a0 n0 c0, .slice a1 n1 c1, .slice a2 n2 c2, .slice a3 n3 c3, .string s4] w fun e w' => e = .returned (.bool true) ∧ Below w.heap.size w w'

set_option maxRecDepth 100000 in
theorem lifted2 (hmain : MainOK2)
    (os : Os) (started : os.Started) (H : Type) (enc : TypeId × Value → H) :
    ReturnsInHanded {} Tryd.checked os 4 .any (fun w args => (Rows.fnRepositoryFindsWhatRepositoriesListsSpec.pre enc Tryd.prog Tryd.f4 [] false w args ∧ laidMetH Tryd.prog Rows.fnRepositoryFindsWhatRepositoriesListsRow.laid w) ∧ sizedMet enc Tryd.prog Tryd.f4 (OpenSpec.ofChange Rows.fnRepositoryFindsWhatRepositoriesListsSpec) false w args)
      (Rows.fnRepositoryFindsWhatRepositoriesListsSpec.post enc Tryd.prog Tryd.f4 false true false false) := by
  refine returnsInHanded_of_change_and (C := Tryd.checked) (X := fun w _ => laidMetH Tryd.prog Rows.fnRepositoryFindsWhatRepositoriesListsRow.laid w) (fun _ _ _ hh h => h.of_heap hh) own started (by kernel_rfl) Tryd.func4
    (ChangeSpec.witness_shaped (enc := enc) (C := Tryd.checked) (os := os) (X := fun w _ => laidMetH Tryd.prog Rows.fnRepositoryFindsWhatRepositoriesListsRow.laid w) false (World.doorLaid Tryd.prog 400 os) #[.slice none 0 0, .slice none 0 0, .slice none 0 0, .slice none 0 0, .string ⟨#[]⟩] 8 rfl (World.shaped_of_RefB (by kernel_rfl) (by kernel_rfl)) (by kernel_rfl) (by kernel_rfl) (by kernel_rfl) (door_met2 os _)) ?_
  intro W base args ds gs before hval0 hW _ _ hL _
  have hval : ∀ (j : Nat) t v, Tryd.f4.params[j]? = some t → args[j]? = some v → Value.okWide Tryd.prog W .any base t v := hval0
  have hW' := hW
  obtain ⟨p, q, hA0, hV0, rfl, hfz, hnd⟩ := hW
  have hA : DataW.TrodAll enc Tryd.prog W 0 (fun _ => true) true Tryd.f4.params.toList args.toList ds p := hA0
  have hV : DataW.TrodVars enc Tryd.prog W (fun _ => true) ["example.com/cairn/cairn/index.errFormat", "example.com/cairn/cairn/index.ErrDamaged"] gs q := hV0
  rw [Tryd.params4] at hA hval
  obtain ⟨v0, vs0, d0, ds0, p0, q0, hargs, rfl, rfl, h0, r0⟩ := trodAll_cons hA
  obtain ⟨v1, vs1, d1, ds1, p1, q1, rfl, rfl, rfl, h1, r1⟩ := trodAll_cons r0
  obtain ⟨v2, vs2, d2, ds2, p2, q2, rfl, rfl, rfl, h2, r2⟩ := trodAll_cons r1
  obtain ⟨v3, vs3, d3, ds3, p3, q3, rfl, rfl, rfl, h3, r3⟩ := trodAll_cons r2
  obtain ⟨v4, vs4, d4, ds4, p4, q4, rfl, rfl, rfl, h4, r4⟩ := trodAll_cons r3
  obtain ⟨rfl, rfl, rfl⟩ := trodAll_nil r4
  obtain rfl : args = #[v0, v1, v2, v3, v4] := by cases args; simp_all
  have lt : ∀ {t : TypeId} {v : Value} {d : DataW H} {pl : List MemPlace}, DataW.Trod enc Tryd.prog W 0 (fun _ => true) true t v d pl → ∀ x ∈ pl, x.block < W.heap.size := fun h => by obtain ⟨m, hm⟩ := h; exact DataW.trod_lt m _ _ _ hm
  obtain ⟨a0, n0, c0, rfl⟩ := okWide_slice Tryd.underlying22 (hval 0 22 v0 rfl rfl)
  obtain ⟨a1, n1, c1, rfl⟩ := okWide_slice Tryd.underlying22 (hval 1 22 v1 rfl rfl)
  obtain ⟨a2, n2, c2, rfl⟩ := okWide_slice Tryd.underlying22 (hval 2 22 v2 rfl rfl)
  obtain ⟨a3, n3, c3, rfl⟩ := okWide_slice Tryd.underlying23 (hval 3 23 v3 rfl rfl)
  have k4 := h4
  obtain ⟨s4, rfl, rfl, rfl, z4⟩ := Go.ChangeMaps.open_string Tryd.underlying9 (hval 4 9 v4 rfl rfl) h4
  obtain ⟨b0, o0, S0, i0, l0, m0⟩ := strs_of h0
  obtain ⟨b1, o1, S1, i1, l1, m1⟩ := strs_of h1
  obtain ⟨b2, o2, S2, i2, l2, m2⟩ := strs_of h2
  obtain ⟨b3, o3, K, i3, l3, m3⟩ := nums_of h3
  clear hA0 hval0 hV0
  refine (hmain a0 b0 o0 n0 c0 S0 a1 b1 o1 n1 c1 S1 a2 b2 o2 n2 c2 S2 a3 b3 o3 n3 c3 K W i0 l0 m0 i1 l1 m1 i2 l2 m2 i3 l3 m3 s4 z4).mono fun e W' ⟨he, bel⟩ => ?_
  subst he
  obtain ⟨g1, g2, rfl, hback⟩ := vars_back (sp := fun b => decide (b < W.heap.size)) hV bel
  exact ⟨_, rfl, _, _, _, [], _, _, hW', trodAll_mk1 (shut_bool Tryd.underlying4 _), (trodAll_cons_mk (Below.trod laidOut (by kernel_rfl) (of_decide_eq_true (by kernel_rfl)) h0 bel (lt h0)) (trodAll_cons_mk (Below.trod laidOut (by kernel_rfl) (of_decide_eq_true (by kernel_rfl)) h1 bel (lt h1)) (trodAll_cons_mk (Below.trod laidOut (by kernel_rfl) (of_decide_eq_true (by kernel_rfl)) h2 bel (lt h2)) (trodAll_cons_mk (Below.trod laidOut (by kernel_rfl) (of_decide_eq_true (by kernel_rfl)) h3 bel (lt h3)) (trodAll_cons_mk (Below.trod laidOut (by kernel_rfl) (of_decide_eq_true (by kernel_rfl)) k4 bel (lt k4)) trodAll_mk0))))), hback, bel.frame _, fun h => by cases h⟩

theorem over2 (hmain : MainOK2) : Rows.fnRepositoryFindsWhatRepositoriesListsRow.holds Tryd.pinned (OpenSpec.ofChange Rows.fnRepositoryFindsWhatRepositoriesListsSpec) :=
  OpenClaim.holds_of_wide 4 Tryd.f4 rfl rfl rfl rfl rfl rfl rfl ⟨rfl, rfl, rfl, rfl, rfl⟩ rfl rfl rfl rfl rfl (by kernel_rfl) Tryd.func4 (by kernel_rfl)
    (of_decide_eq_true (by kernel_rfl)) (by unfold Func.isWrapper; first | (rw [if_pos (by decide +kernel)]; kernel_rfl) | (rw [if_neg (by decide +kernel)]; exact ⟨rfl, rfl⟩))
    (fun os started H enc _ => lifted2 hmain os started H enc)

theorem wants2 (t : TypeId) (h : t = 22 ∨ t = 23 ∨ t = 9) : Tryd.prog.wantsStandIn t = false := by
  rcases h with rfl | rfl | rfl <;> kernel_rfl

theorem card2 (hmain : MainOK2) : Rows.FnRepositoryFindsWhatRepositoriesListsCardSaid :=
  Claim7.holds_tied_plain_at .later [] [.sentinel, .sentinel] true (true, "cb079dc891dd6a29f5689f213fc05c1c4f1ba06c545ae5fa365b57950ae2d1c7") false
    (over2 hmain) (fun _ h => by cases h) (by kernel_rfl) (fun _ h => by cases h) fnRepositoryFindsWhatRepositoriesLists_row_tie rfl ⟨rfl, rfl⟩ (by kernel_rfl) rfl
    (fun f fn hf hfn => by
      obtain rfl : f = 4 := Option.some.inj ((show Tryd.prog.funcNamed "example.com/cairn/cairn/zzlaws_index_b1.FnRepositoryFindsWhatRepositoriesLists" = some 4 by kernel_rfl).symm.trans hf) |>.symm
      obtain rfl : fn = Tryd.f4 := (Option.some.inj (Tryd.func4.symm.trans hfn)).symm
      exact ⟨by kernel_rfl, fun j t ht => by
        rw [Tryd.params4] at ht
        refine wants2 t ?_
        rcases j with _ | _ | _ | _ | _ | j
        · left; simpa using ht.symm
        · left; simpa using ht.symm
        · left; simpa using ht.symm
        · right; left; simpa using ht.symm
        · right; right; simpa using ht.symm
        · simp at ht⟩)
    (by kernel_rfl)

end Go.Proofs.Qxb6606006aDoor.Ix
