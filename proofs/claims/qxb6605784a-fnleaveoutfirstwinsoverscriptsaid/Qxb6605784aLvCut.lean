import Derived.Test.Qxb6605784aLvFields
namespace Go.Proofs.Qxb6605784a.Leave
open Go.RowKit
open Extern.Stop (cell)
set_option linter.unusedVariables false

def canEnter (P : Program) (f : FuncId) : Bool :=
  match P.funcs[f]? with
  | some fn => !(fn.name == "runtime.NumGoroutine") && fn.body.isSome
  | none => false
theorem run_enter {P : Program} {f : FuncId} (h : canEnter P f = true) (args : Array Value) (w : World) : (callFunc f args).run P w = .ok (.enter f args) w := by
  unfold canEnter at h
  split at h
  · rename_i fn hf
    simp only [Bool.and_eq_true, Bool.not_eq_true'] at h
    obtain ⟨h1, h2⟩ := h
    have h1' : ¬ (fn.name = "runtime.NumGoroutine") := by simpa using h1
    unfold callFunc
    simp [run_program, hf, h1']
    intro hb
    rw [hb] at h2
    cases h2
  · cases h

theorem wp_call_fn {P : Program} {op : Oper} {a : Act} {w : World} {K : Act → World → Prop} {Q : Exit → Act → World → Prop} {f : FuncId} {args : Array Operand} {ts : Array TypeId}
    (ho : op.op = .call { callee := .value (.func f), args := args, argTypes := ts }) (hf : canEnter P f = true) {R : Ending → World → Prop} {vals : Array Value} (hv : args.map a.eval = vals) (h : Calls P f vals w R)
    (hR : ∀ e w', R e w' → ∃ v, e = .returned v ∧ K (a.put op.dst v) w') : op.wp P a w K Q := by
  subst hv
  unfold Oper.wp execOp
  simp only [ho]
  simp [go_sem]
  rw [run_enter hf]
  refine h.mono fun e w' he => ?_
  obtain ⟨v, rfl, hk⟩ := hR e w' he
  exact hk

theorem wp_alloc_agg {P : Program} {op : Oper} {a : Act} {w : World} {K : Act → World → Prop} {Q : Exit → Act → World → Prop} (t : TypeId) (ho : op.op = .alloc t) (Z : Array Value) (hz : ∀ w, (zeroValue t).run P w = .ok (.agg Z) w)
    (h : K (a.put op.dst (.pointer (some ⟨w.heap.size, 0, none⟩))) (w.alloc (.cells Z t))) : op.wp P a w K Q := by
  unfold Oper.wp execOp
  simp only [ho]
  simp [go_sem, hz]
  exact h

theorem wpList_load_want {P : Program} {ops : Array Oper} {rest : List Oper} {op : Oper} {a : Act} {w : World} {Q : Exit → Act → World → Prop} (hw : Region.wanted op (yielded ops a.tmps) = true) (ty : TypeId) (x : Operand) (ho : op.op = .load ty x)
    (b o : Nat) (hx : a.eval x = .pointer (some ⟨b, o, none⟩)) (cs : List Value) (d : TypeDesc) (hc : w.rangeAt b o cs)
    (hu : P.underlying ty = some d) (hd : d.isRow = true) (hi : (P.info? ty).map (·.size) = some cs.length)
    (h : wpList P ops Q rest (a.put op.dst (.agg cs.toArray)) w) : wpList P ops Q (op :: rest) a w :=
  wpList_step fun K hK => by rw [if_pos hw]; exact wp_load_mid ty x ho b o hx cs d hc hu hd hi (hK _ _ h)

theorem wp_region_cut {P : Program} {id : Nat} {ops : Array Oper} {b : Bool} {Q : Exit → Act → World → Prop} {a : Act} {w : World} (F : Act → World → Prop) (h1 : (Code.region id ops b).wp P (fun e a w => e = .normal ∧ F a w) a w)
    (h2 : ∀ a' w', F a' w' → Q .normal a' w') : (Code.region id ops b).wp P Q a w :=
  Code.wp_mono (fun e a w ⟨he, hF⟩ => he ▸ h2 a w hF) h1

section
variable {P : Program} {ops : Array Oper} {Q : Exit → Act → World → Prop} {md : Region.Mode} {S : World → Prop} {Z : Nat → Bool}
theorem wpAnyZ_take {i : Nat} {oi : Oper} {v : Value} {fuel : Nat} {listed : Array Bool} {a : Act} {w : World} (hi : ops[i]? = some oi)
    (hs : Region.noSelect ops = true) (hf : Region.free md ops listed i = true) (hr : (Region.ready md ops listed).contains i = true)
    (hQ : ∀ c a w, Q (.panic c) (a.put oi.dst v) w → Q (.panic c) a w) (hZ : ∀ j, Z j = true → Region.waitsFor md ops j i = true) (hy : YieldsIf P ops S oi v a) (hS : S w)
    (h : wpAnyZ P md ops Q S Z fuel (listed.setIfInBounds i true) (a.put oi.dst v) w) : wpAnyZ P md ops Q S Z (fuel + 1) listed a w :=
  wpAnyZ_first hi (Region.noSelect_spec hs) hQ hZ fuel listed a w (Region.free_spec hi hf) (by simpa using hr) hy hS h

/-- One of two operations comes up. -/
theorem wpAnyZ_two {t s : Nat} {o o' : Oper} {fuel : Nat} {listed : Array Bool} {a : Act} {w : World} (hr : Region.ready md ops listed = [t, s]) (ho : ops[t]? = some o) (hg : o.guard = none) (ho' : ops[s]? = some o') (hg' : o'.guard = none)
    (h : o.wp P a w (fun a' w' => (Z t = false → S w') ∧ wpAnyZ P md ops Q S Z fuel (listed.setIfInBounds t true) a' w') Q)
    (h' : o'.wp P a w (fun a' w' => (Z s = false → S w') ∧ wpAnyZ P md ops Q S Z fuel (listed.setIfInBounds s true) a' w') Q) : wpAnyZ P md ops Q S Z (fuel + 1) listed a w := by
  refine ⟨fun h0 => (by rw [hr] at h0; cases h0), fun i hi => ?_⟩
  rw [hr] at hi
  simp only [List.mem_cons, List.not_mem_nil, or_false] at hi
  unfold wpOp
  rcases hi with rfl | rfl
  · simp only [ho]
    rw [if_pos (by simp [Region.wanted, hg])]
    exact .inl h
  · simp only [ho']
    rw [if_pos (by simp [Region.wanted, hg'])]
    exact .inl h'
end

/-- What is known behind 'a := ZZnewVersion(.., toParts(..), ..)'. -/
def VerAt (w : World) (D S X Y : List UInt8) (a : Option Addr) (n : Nat) (K : Nat → List UInt8) (T : Nat → Int) (g : Nat) (s : Option Addr) (sc : Nat) (w' : World) : Prop :=
  Below w.heap.size w w' ∧ w.heap.size ≤ g ∧ w'.rangeAt g 0 (verCells D S (.slice s n sc) X Y) ∧ ∃ sb so, IsParts w' s sb so n K T ∧ s.isNone = a.isNone

theorem parts_setCells {w : World} {s : Option Addr} {sb so n g : Nat} {K : Nat → List UInt8} {T : Nat → Int} (h : IsParts w s sb so n K T) (hne : 0 < n → sb ≠ g) (vs : List Value) : IsParts (w.setCells g 0 vs) s sb so n K T :=
  ⟨h.top, h.len, fun i hi => World.rangeAt_setCells_apart (h.cell i hi) _ _ _ (.inl (hne (by omega)))⟩
theorem parts_lt {w : World} {s : Option Addr} {sb so n : Nat} {K : Nat → List UInt8} {T : Nat → Int} (h : IsParts w s sb so n K T) (hn : 0 < n) : sb < w.heap.size := by
  have hc := h.cell 0 hn
  have hl := h.len 0 hn
  have h0 : (partCells (K 0) (T 0))[0]? ≠ none := by
    rw [Ne, List.getElem?_eq_none_iff, partCells_len hl]; omega
  obtain ⟨v, hv⟩ := Option.ne_none_iff_exists'.1 h0
  exact World.block_lt_of_cell? _ _ (hc 0 v hv)

theorem ver_store {w y : World} {D S X Y : List UInt8} {a s : Option Addr} {n sc g sb so : Nat} {K : Nat → List UInt8} {T : Nat → Int} {V : Nat → Value} (hD : D.length = 32) (hS : S.length = 64) (hX : X.length = 32) (hY : Y.length = 32)
    (hb : Below w.heap.size w y) (hg : w.heap.size ≤ g) (hr : y.rowIs g 40 161 V) (hp : IsParts y s sb so n K T) (hne : 0 < n → sb ≠ g) (hnil : s.isNone = a.isNone) :
    VerAt w D S X Y a n K T g s sc (y.setCells g 0 (verCells D S (.slice s n sc) X Y)) :=
  ⟨Go.below_setCells hg _ _ _ hb, hg, World.rangeAt_setCells_same _ _ _ _ (by rw [verCells_len hD hS hX hY]; exact there_of_row hr (by omega)), sb, so, parts_setCells hp hne _, hnil⟩

end Go.Proofs.Qxb6605784a.Leave
