import Derived.Test.Qxb6605784aLvMain
import Derived.ProofKit
import Derived.OpenShut
import Derived.ShutString
import Derived.ChangeOld
import Derived.Deep.Slices
namespace Go.Proofs.Qxb6605784a.Leave
open Go.ChangeShapes Go.WideShapes Go.ChangeAt Go.RowKit Go.Deep
open Extern.Stop (cell)
set_option linter.unusedVariables false

theorem own : ownKnob Try.prog.godebug = none := by kernel_rfl
theorem laidOut : laidOutB Try.prog = true := by kernel_rfl

theorem trod_array {H : Type} {enc : TypeId × Value → H} {P : Program} {w : World} {base : Nat} {sp : Nat → Bool} {held : Bool} {fuel : Nat} {t e : TypeId} {n : Nat} {cs : List Value} {x : DataW H × List MemPlace}
    (ht : P.underlying t = some (.array n e)) (h : DataW.trod enc P w base sp held fuel t cs = some x) :
    ∃ m, cs.length = P.cellsOf t ∧ ∀ i, i < n → ∃ y, DataW.trod enc P w base sp held m e ((cs.drop (i * P.cellsOf e)).take (P.cellsOf e)) = some y := by
  cases fuel with
  | zero => simp [DataW.trod] at h
  | succ m =>
    unfold DataW.trod at h
    rw [ht] at h
    split at h <;> simp_all
    obtain ⟨hl, xs, hp, hd⟩ := h
    refine ⟨m, fun i hi => ?_⟩
    have hg := mapM_some_get hp i i (by simp [hi])
    have hlen := mapM_some_length hp
    obtain ⟨y, hy⟩ : ∃ y, xs[i]? = some y := ⟨_, List.getElem?_eq_getElem (by simp at hlen; omega)⟩
    exact ⟨y.1, y.2, by rw [hg, hy]⟩

/-- An array of bytes, by its cells. -/
theorem bytes_of {H : Type} {enc : TypeId × Value → H} {P : Program} {w : World} {base : Nat} {sp : Nat → Bool} {held : Bool} {fuel : Nat} {t e : TypeId} {n : Nat} {cs : List Value} {x : DataW H × List MemPlace}
    (ht : P.underlying t = some (.array n e)) (he : P.underlying e = some (.int .u8)) (hc : P.cellsOf e = 1) (hn : P.cellsOf t = n) (h : DataW.trod enc P w base sp held fuel t cs = some x) :
    ∃ L : List UInt8, L.length = n ∧ cs = L.map cell := by
  obtain ⟨m, hl, hall⟩ := trod_array ht h
  rw [hn] at hl
  refine ⟨cs.map (fun v => match v with | .int _ a => UInt8.ofNat a.toNat | _ => 0), by simpa using hl, ?_⟩
  apply List.ext_getElem?
  intro i
  by_cases hi : i < n
  · obtain ⟨y, hy⟩ := hall i hi
    rw [hc, Nat.mul_one] at hy
    obtain ⟨a, ha, _, hw⟩ := DataW.trod_int he hy
    have hci : cs[i]? = some (.int .u8 a) := by
      have h0 : ((cs.drop i).take 1)[0]? = some (.int .u8 a) := by rw [ha]; rfl
      simpa using h0
    have hb := bounds_u8 hw
    rw [List.getElem?_map, List.getElem?_map, hci]
    simp only [Option.map_some, cell, Option.some.injEq, Value.int.injEq, true_and]
    rw [UInt8.toNat_ofNat']
    simp at hb ⊢
    omega
  · rw [List.getElem?_eq_none (by omega), List.getElem?_eq_none (by simp; omega)]

set_option maxRecDepth 100000 in
theorem arr_of {H : Type} {enc : TypeId × Value → H} {W : World} {r : Reach} {b0 : Nat} {t : TypeId} {n : Nat} {v : Value} {d : DataW H} {p : List MemPlace} (ht : Try.prog.underlying t = some (.array n 5)) (hn : Try.prog.cellsOf t = n)
    (hv : Value.okWide Try.prog W r b0 t v) (h : DataW.Trod enc Try.prog W 0 (fun _ => true) true t v d p) : ∃ L : List UInt8, L.length = n ∧ v = .agg (L.map cell).toArray := by
  simp only [Value.okWide, ht] at hv
  obtain ⟨cs, rfl, _, _⟩ := hv
  obtain ⟨fuel, hf⟩ := h
  obtain ⟨L, hL, hcs⟩ := bytes_of ht Try.underlying5 (by kernel_rfl) hn hf
  refine ⟨L, hL, ?_⟩
  rw [← hcs]
  simp [Value.cells]

set_option maxRecDepth 100000 in
theorem parts_of {H : Type} {enc : TypeId × Value → H} {W : World} {a0 : Option Addr} {len cap : Nat} {d : DataW H} {p : List MemPlace}
    (h : DataW.Trod enc Try.prog W 0 (fun _ => true) true 30 (.slice a0 len cap) d p) : ∃ b o K T, IsParts W a0 b o len K T ∧ len ≤ maxLen := by
  obtain ⟨fuel, hf⟩ := h
  rcases open_slice Try.underlying30 hf with ⟨hcs, _⟩ | ⟨a, len', cap', m, n, D, Pl, hcs, _, hl, hm, hmm, _, hr⟩
  · simp [Value.cells] at hcs
    obtain ⟨rfl, rfl, rfl⟩ := hcs
    exact ⟨0, 0, fun _ => [], fun _ => 0, ⟨fun h => absurd h (Nat.lt_irrefl _), fun r hr => absurd hr (Nat.not_lt_zero _), fun r hr => absurd hr (Nat.not_lt_zero _)⟩, Nat.zero_le _⟩
  · simp [Value.cells] at hcs
    obtain ⟨rfl, rfl, rfl⟩ := hcs
    have hlm : len ≤ m := by rw [hmm]; split <;> omega
    have c71 : Try.prog.cellsOf 71 = 33 := by kernel_rfl
    have c28 : Try.prog.cellsOf 28 = 32 := by kernel_rfl
    have c69 : Try.prog.cellsOf 69 = 1 := by kernel_rfl
    have key : ∀ i, i < len → ∃ q : List UInt8 × Int, q.1.length = 32 ∧ ∀ j v, (partCells q.1 q.2)[j]? = some v → W.cell? ((a.add (i * 33)).add j) = some v := fun i hi => by
      obtain ⟨cs, hcells, htr⟩ := hr i (by omega)
      rw [c71] at hcells
      obtain ⟨_, hlen, hget⟩ := World.cells?_some hcells
      obtain ⟨xs, n', _, _, _, hxl, hfs⟩ := DataW.trod_struct Try.underlying71 htr
      have f0 : DataW.trod enc Try.prog W 0 (fun _ => true) true n' 28 ((cs.drop 0).take (Try.prog.cellsOf 28)) = xs[0]? := hfs 0 _ rfl
      have f1 : DataW.trod enc Try.prog W 0 (fun _ => true) true n' 69 ((cs.drop 32).take (Try.prog.cellsOf 69)) = xs[1]? := hfs 1 _ rfl
      rw [c28] at f0
      rw [c69] at f1
      obtain ⟨y0, hy0⟩ : ∃ y, xs[0]? = some y := ⟨_, List.getElem?_eq_getElem (by rw [hxl]; decide)⟩
      obtain ⟨y1, hy1⟩ : ∃ y, xs[1]? = some y := ⟨_, List.getElem?_eq_getElem (by rw [hxl]; decide)⟩
      rw [hy0] at f0
      rw [hy1] at f1
      obtain ⟨L, hL, hLc⟩ := bytes_of Try.underlying28 Try.underlying5 (by kernel_rfl) c28 f0
      obtain ⟨t, ht, _, _⟩ := DataW.trod_int Try.underlying69 f1
      refine ⟨(L, t), hL, fun j v hv => ?_⟩
      have hcs : cs = partCells L t := by
        unfold partCells
        rw [← hLc, ← ht]
        rw [List.drop_zero, List.take_of_length_le (l := cs.drop 32) (by simp; omega), List.take_append_drop]
      rw [← hcs] at hv
      have hj : j < 33 := by rw [← hlen]; exact (List.getElem?_eq_some_iff.1 hv).1
      rw [hget j hj, hv]
    obtain ⟨F, hF⟩ := choose_lt (α := List UInt8 × Int) key
    have spot : 0 < len → a = ⟨a.block, a.off, none⟩ := fun h0 => by
      obtain ⟨h1, h2⟩ := hF 0 h0
      have hv : (partCells (F 0).1 (F 0).2)[0]? ≠ none := by
        rw [Ne, List.getElem?_eq_none_iff, partCells_len h1]; omega
      obtain ⟨v, hv⟩ := Option.ne_none_iff_exists'.1 hv
      have h3 := h2 0 v hv
      obtain ⟨b, o, s⟩ := a
      have hs : s = none := by
        have := World.cell?_spot h3
        simpa [Addr.add] using this
      subst hs
      rfl
    refine ⟨a.block, a.off, fun i => (F i).1, fun i => (F i).2, ⟨fun h0 => by rw [← spot h0], fun i hi => (hF i hi).1, fun i hi j v hv => ?_⟩, by omega⟩
    have h3 := (hF i hi).2 j v hv
    rw [add_add, spot (by omega), Addr.add_mid] at h3
    rw [Nat.add_assoc]
    exact h3

set_option maxRecDepth 100000 in
theorem lifted (os : Os) (started : os.Started) (H : Type) (enc : TypeId × Value → H) :
    ReturnsInHanded {} Try.checked os 4 .any (Rows.fnLeaveOutFirstWinsOverScriptSpec.pre6 enc Try.prog Try.f4 Rows.fnLeaveOutFirstWinsOverScriptRow.domain false) (Rows.fnLeaveOutFirstWinsOverScriptSpec.post enc Try.prog Try.f4 false true false false) := by
  refine returnsInHanded_of_change (C := Try.checked) own started (by kernel_rfl) Try.func4
    (ChangeSpec.witness6 (enc := enc) (C := Try.checked) false ⟨#[], #[.agg (List.replicate 32 (Value.int .u8 0)).toArray, .agg (List.replicate 64 (Value.int .u8 0)).toArray, .slice none 0 0, .agg (List.replicate 32 (Value.int .u8 0)).toArray, .agg (List.replicate 32 (Value.int .u8 0)).toArray, .agg (List.replicate 32 (Value.int .u8 0)).toArray, .agg (List.replicate 64 (Value.int .u8 0)).toArray, .slice none 0 0, .agg (List.replicate 32 (Value.int .u8 0)).toArray, .agg (List.replicate 32 (Value.int .u8 0)).toArray], []⟩ 8 (by kernel_rfl) (by kernel_rfl) (by kernel_rfl) (by kernel_rfl)) ?_
  intro W base args ds gs before hval0 hW hcnd _
  have hval : ∀ (j : Nat) t v, Try.f4.params[j]? = some t → args[j]? = some v → Value.okWide Try.prog W .any base t v := hval0
  have hW' := hW
  obtain ⟨p, q, hA0, hV, rfl, hfz, hnd⟩ := hW
  have hA : DataW.TrodAll enc Try.prog W 0 (fun _ => true) true Try.f4.params.toList args.toList ds p := hA0
  rw [Try.params4] at hA hval
  obtain ⟨v0, vs0, d0, ds0, p0, q0, hargs, rfl, rfl, h0, r0⟩ := trodAll_cons hA
  obtain ⟨v1, vs1, d1, ds1, p1, q1, rfl, rfl, rfl, h1, r1⟩ := trodAll_cons r0
  obtain ⟨v2, vs2, d2, ds2, p2, q2, rfl, rfl, rfl, h2, r2⟩ := trodAll_cons r1
  obtain ⟨v3, vs3, d3, ds3, p3, q3, rfl, rfl, rfl, h3, r3⟩ := trodAll_cons r2
  obtain ⟨v4, vs4, d4, ds4, p4, q4, rfl, rfl, rfl, h4, r4⟩ := trodAll_cons r3
  obtain ⟨v5, vs5, d5, ds5, p5, q5, rfl, rfl, rfl, h5, r5⟩ := trodAll_cons r4
  obtain ⟨v6, vs6, d6, ds6, p6, q6, rfl, rfl, rfl, h6, r6⟩ := trodAll_cons r5
  obtain ⟨v7, vs7, d7, ds7, p7, q7, rfl, rfl, rfl, h7, r7⟩ := trodAll_cons r6
  obtain ⟨v8, vs8, d8, ds8, p8, q8, rfl, rfl, rfl, h8, r8⟩ := trodAll_cons r7
  obtain ⟨v9, vs9, d9, ds9, p9, q9, rfl, rfl, rfl, h9, r9⟩ := trodAll_cons r8
  obtain ⟨rfl, rfl, rfl⟩ := trodAll_nil r9
  obtain rfl : args = #[v0, v1, v2, v3, v4, v5, v6, v7, v8, v9] := by cases args; simp_all
  obtain ⟨rfl, rfl⟩ := trodVars_none hV
  have lt : ∀ {t : TypeId} {v : Value} {d : DataW H} {pl : List MemPlace}, DataW.Trod enc Try.prog W 0 (fun _ => true) true t v d pl → ∀ x ∈ pl, x.block < W.heap.size := fun h => by obtain ⟨m, hm⟩ := h; exact DataW.trod_lt m _ _ _ hm
  obtain ⟨L0, hL0, rfl⟩ := arr_of Try.underlying28 (by kernel_rfl) (hval 0 28 v0 rfl rfl) h0
  obtain ⟨L1, hL1, rfl⟩ := arr_of Try.underlying29 (by kernel_rfl) (hval 1 29 v1 rfl rfl) h1
  obtain ⟨a2, len2, cap2, rfl⟩ := okWide_slice Try.underlying30 (hval 2 30 v2 rfl rfl)
  obtain ⟨L3, hL3, rfl⟩ := arr_of Try.underlying28 (by kernel_rfl) (hval 3 28 v3 rfl rfl) h3
  obtain ⟨L4, hL4, rfl⟩ := arr_of Try.underlying28 (by kernel_rfl) (hval 4 28 v4 rfl rfl) h4
  obtain ⟨L5, hL5, rfl⟩ := arr_of Try.underlying28 (by kernel_rfl) (hval 5 28 v5 rfl rfl) h5
  obtain ⟨L6, hL6, rfl⟩ := arr_of Try.underlying29 (by kernel_rfl) (hval 6 29 v6 rfl rfl) h6
  obtain ⟨a7, len7, cap7, rfl⟩ := okWide_slice Try.underlying30 (hval 7 30 v7 rfl rfl)
  obtain ⟨L8, hL8, rfl⟩ := arr_of Try.underlying28 (by kernel_rfl) (hval 8 28 v8 rfl rfl) h8
  obtain ⟨L9, hL9, rfl⟩ := arr_of Try.underlying28 (by kernel_rfl) (hval 9 28 v9 rfl rfl) h9
  obtain ⟨b2, o2, K2, T2, hp2, hm2⟩ := parts_of h2
  obtain ⟨b7, o7, K7, T7, hp7, hm7⟩ := parts_of h7
  clear hA0 hval0
  refine (main_walk L0 L1 L3 L4 L5 L6 L8 L9 a2 a7 b2 o2 len2 cap2 b7 o7 len7 cap7 K2 K7 T2 T7 W hL0 hL1 hL3 hL4 hL5 hL6 hL8 hL9 hp2 hp7 hm2 hm7).mono fun e W' ⟨he, bel⟩ => ?_
  subst he
  exact ⟨_, rfl, _, _, _, [], _, [], hW', trodAll_mk1 (shut_bool Try.underlying4 _), (trodAll_cons_mk (Below.trod laidOut (by kernel_rfl) (of_decide_eq_true (by kernel_rfl)) h0 bel (lt h0)) (trodAll_cons_mk (Below.trod laidOut (by kernel_rfl) (of_decide_eq_true (by kernel_rfl)) h1 bel (lt h1)) (trodAll_cons_mk (Below.trod laidOut (by kernel_rfl) (of_decide_eq_true (by kernel_rfl)) h2 bel (lt h2)) (trodAll_cons_mk (Below.trod laidOut (by kernel_rfl) (of_decide_eq_true (by kernel_rfl)) h3 bel (lt h3)) (trodAll_cons_mk (Below.trod laidOut (by kernel_rfl) (of_decide_eq_true (by kernel_rfl)) h4 bel (lt h4)) (trodAll_cons_mk (Below.trod laidOut (by kernel_rfl) (of_decide_eq_true (by kernel_rfl)) h5 bel (lt h5)) (trodAll_cons_mk (Below.trod laidOut (by kernel_rfl) (of_decide_eq_true (by kernel_rfl)) h6 bel (lt h6)) (trodAll_cons_mk (Below.trod laidOut (by kernel_rfl) (of_decide_eq_true (by kernel_rfl)) h7 bel (lt h7)) (trodAll_cons_mk (Below.trod laidOut (by kernel_rfl) (of_decide_eq_true (by kernel_rfl)) h8 bel (lt h8)) (trodAll_cons_mk (Below.trod laidOut (by kernel_rfl) (of_decide_eq_true (by kernel_rfl)) h9 bel (lt h9)) trodAll_mk0)))))))))), rfl, bel.frame _, fun h => by cases h⟩

theorem over : Rows.fnLeaveOutFirstWinsOverScriptRow.holds Try.pinned (OpenSpec.ofChange Rows.fnLeaveOutFirstWinsOverScriptSpec) :=
  OpenClaim.holds_of_wide 4 Try.f4 rfl rfl rfl rfl rfl rfl rfl ⟨rfl, rfl, rfl, rfl, rfl⟩ rfl rfl rfl rfl rfl (by kernel_rfl) Try.func4 (by kernel_rfl)
    (of_decide_eq_true (by kernel_rfl)) (by unfold Func.isWrapper; first | (rw [if_pos (by decide +kernel)]; kernel_rfl) | (rw [if_neg (by decide +kernel)]; exact ⟨rfl, rfl⟩))
    (fun os started H enc _ => lifted os started H enc)

/-- THE STATEMENT -/
theorem proved : Rows.FnLeaveOutFirstWinsOverScriptSaid := over
end Go.Proofs.Qxb6605784a.Leave
