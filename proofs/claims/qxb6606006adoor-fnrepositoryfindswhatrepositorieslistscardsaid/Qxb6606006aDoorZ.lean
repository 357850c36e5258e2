import Derived.Test.Qxb6606006aDoorTail
import Derived.StillTail
import Derived.BigQuiet
import Derived.Deep.AppendLies
namespace Go.Proofs.Qxb6606006aDoor.Ix
set_option linter.unusedVariables false

/-- Kinds of operation that yield a value, if anything. -/
def valueOp : Op → Bool
  | .move _ | .assign _ | .load _ _ | .fieldAddr _ _ _ | .indexAddr _ _ _ | .nilCheck _ | .convert _ _ _ | .binOp _ _ _ _ _ | .unOp _ _ _ | .extract _ _ | .slice _ _ _ _ _ | .build _ _ => true
  | _ => false

theorem value_of_run {P : Program} {ρ : Operand → Value} {o : Oper} (hv : valueOp o.op = true) {w w' : World} {n : Next} (h : (execOp ρ o).run P w = .ok n w') : ∃ u, n = .value u := by
  obtain ⟨dst, op, ty, pos, af, gd⟩ := o
  have key : ∀ s : Sem Value, (Sem.run P (do pure (Next.value (← s))) w) = .ok n w' → ∃ u, n = .value u := fun s hs => by
    simp only [Sem.run_bind, Sem.run_pure] at hs
    cases hr : s.run P w with
    | ok x w1 => rw [hr] at hs; simp [Result.andThen] at hs; exact ⟨x, hs.1.symm⟩
    | halt x w1 => rw [hr] at hs; simp [Result.andThen] at hs
  cases op <;> simp only [valueOp, Bool.false_eq_true] at hv <;> first
    | exact key _ h
    | (simp only [execOp, Sem.run_pure, Result.ok.injEq] at h; exact ⟨_, h.1.symm⟩)
    | skip
  rename_i x
  unfold execOp at h
  dsimp only at h
  generalize ρ x = X at h
  have pv : ∀ u, (Sem.run P (pure (Next.value u)) w) = .ok n w' → ∃ u, n = .value u := fun u hs => by
    simp only [Sem.run_pure, Result.ok.injEq] at hs
    exact ⟨u, hs.1.symm⟩
  cases X with
  | pointer p =>
    cases p with
    | none => simp [runtimePanic] at h
    | some q => exact pv _ h
  | nilIface => simp [runtimePanic] at h
  | nilFunc => simp [runtimePanic] at h
  | func fn first cap =>
    cases fn with
    | method name =>
      dsimp only at h
      split at h
      · simp [runtimePanic] at h
      · simp only [Sem.run_bind] at h
        cases hp : (Sem.run P program w) with
        | halt y w1 => rw [hp] at h; simp [Result.andThen] at h
        | ok y w1 =>
          rw [hp] at h
          simp only [Result.andThen] at h
          split at h
          · rename_i z w2 hz
            by_cases c : (z != some false) = true
            · rw [if_pos c] at h
              simp [unsupported] at h
            · rw [if_neg c] at h
              simp only [Sem.run_pure, Result.ok.injEq] at h
              exact ⟨_, h.1.symm⟩
          · cases h
      · exact pv _ h
    | _ => exact pv _ h
  | _ => exact pv _ h

section
variable {P : Program} {ops : Array Oper} {Q : Exit → Act → World → Prop} {md : Region.Mode} {S : World → Prop} {Z : Nat → Bool}

/-- Whatever order is picked from here on; behind every operation but those of Z, S holds. -/
def wpAnyZ (P : Program) (md : Region.Mode) (ops : Array Oper) (Q : Exit → Act → World → Prop) (S : World → Prop) (Z : Nat → Bool) : Nat → Array Bool → Act → World → Prop
  | 0, listed, a, w => Region.ready md ops listed = [] ∧ Q .normal a w
  | fuel + 1, listed, a, w =>
    (Region.ready md ops listed = [] → Q .normal a w) ∧
    ∀ i ∈ Region.ready md ops listed, wpOp P ops Q i (fun a' w' => (Z i = false → S w') ∧ wpAnyZ P md ops Q S Z fuel (listed.setIfInBounds i true) a' w') a w

theorem wpAny_of_Z : ∀ (fuel : Nat) (listed : Array Bool) (a : Act) (w : World), wpAnyZ P md ops Q S Z fuel listed a w → wpAny P md ops Q fuel listed a w
  | 0, _, _, _, h => h
  | fuel + 1, _, _, _, h => ⟨h.1, fun i hi => wpOp_mono (fun a' w' h' => wpAny_of_Z fuel _ a' w' h'.2) (h.2 i hi)⟩

theorem wpAnyZ_first {i : Nat} {oi : Oper} {v : Value} (hi : ops[i]? = some oi) (hsel : ∀ (j : Nat) (o : Oper) cs b, ops[j]? = some o → o.op ≠ .select cs b)
    (hQ : ∀ c a w, Q (.panic c) (a.put oi.dst v) w → Q (.panic c) a w) (hZ : ∀ j, Z j = true → Region.waitsFor md ops j i = true) :
    ∀ (fuel : Nat) (listed : Array Bool) (a : Act) (w : World),
      (∀ j oj, ops[j]? = some oj → j ≠ i → listed.getD j true = false → (∀ e ∈ oj.after, Region.binds md e = true → e.on ≠ i) → oi.apart ops oj = true) →
      i ∈ Region.ready md ops listed → YieldsIf P ops S oi v a → S w →
      wpAnyZ P md ops Q S Z fuel (listed.setIfInBounds i true) (a.put oi.dst v) w → wpAnyZ P md ops Q S Z (fuel + 1) listed a w := by
  intro fuel
  induction fuel with
  | zero =>
    intro listed a w _ hr hy hS H
    refine ⟨fun h => (by rw [h] at hr; cases hr), fun j hj => ?_⟩
    by_cases hji : j = i
    · subst hji; exact hy.wpOp hi hS ⟨fun _ => hS, H⟩
    · have := ready_mono hj hji
      rw [H.1] at this
      cases this
  | succ fuel ih =>
    intro listed a w hfree hr hy hS H
    refine ⟨fun h => (by rw [h] at hr; cases hr), fun j hj => ?_⟩
    by_cases hji : j = i
    · subst hji; exact hy.wpOp hi hS ⟨fun _ => hS, H⟩
    · have h1 := H.2 j (ready_mono hj hji)
      obtain ⟨hjun, oj, hoj, hall⟩ := mem_ready.1 hj
      have hnot : ∀ e ∈ oj.after, Region.binds md e = true → e.on ≠ i := fun e he hb heq => by
        have h1 := hall e he hb
        have h0 := (mem_ready.1 hr).1
        rw [heq] at h1
        rcases Nat.lt_or_ge i listed.size with h' | h'
        · simp [h'] at h0 h1; rw [h0] at h1; cases h1
        · simp [Array.getElem?_eq_none h'] at h1
      have hzj : Z j = false := by
        cases hz : Z j with
        | false => rfl
        | true =>
          obtain ⟨oj', hoj', e, he, hb, heq⟩ := Region.waitsFor_spec (hZ j hz)
          obtain rfl : oj' = oj := Option.some.inj (hoj'.symm.trans hoj)
          exact absurd heq (hnot e he hb)
      have h2 := wpOp_putIf hoj (hfree j oj hoj hji hjun hnot) (fun cs b => hsel i oi cs b hi) (fun cs b => hsel j oj cs b hoj) hQ hy h1
      have hfree' : ∀ k ok, ops[k]? = some ok → k ≠ i → (listed.setIfInBounds j true).getD k true = false →
          (∀ e ∈ ok.after, Region.binds md e = true → e.on ≠ i) → oi.apart ops ok = true := fun k ok hk hki hun hno => by
        refine hfree k ok hk hki ?_ hno
        by_cases hjk : j = k
        · subst hjk; exact hjun
        · rw [getD_set_ne true hjk] at hun; exact hun
      refine wpOp_mono (fun a' w' h3 => ⟨h3.2.1, ih (listed.setIfInBounds j true) a' w' hfree' (ready_mono hr (Ne.symm hji)) h3.1 (h3.2.1 hzj) ?_⟩) h2
      rw [Array.setIfInBounds_comm _ _ hji]
      exact h3.2.2

/-- The Bool over a head of n operations that is taken in the text's order. -/
def headB (md : Region.Mode) (ops : Array Oper) (Z : Nat → Bool) : Nat → Nat → Array Bool → Bool
  | 0, _, _ => true
  | n + 1, k, listed => (Region.ready md ops listed).contains k && Region.free md ops listed k && ((ops[k]?).any fun o => valueOp o.op) && ((List.range ops.size).all fun j => !Z j || Region.waitsFor md ops j k) && headB md ops Z n (k + 1) (listed.setIfInBounds k true)

def listedOf : Nat → Nat → Array Bool → Array Bool
  | 0, _, listed => listed
  | n + 1, k, listed => listedOf n (k + 1) (listed.setIfInBounds k true)

theorem wpAnyZ_head (hs : Region.noSelect ops = true) (hQ : ∀ c a d v w, Q (.panic c) (Act.put a d v) w → Q (.panic c) a w) (hZ : ∀ j, Z j = true → j < ops.size) (w : World) (hS : S w) (fuel : Nat) (K : Act → Prop) :
    ∀ (l : List Oper) (k : Nat) (listed : Array Bool) (a : Act), (∀ j, j < l.length → l[j]? = ops[k + j]?) → headB md ops Z l.length k listed = true →
      wpQuiet P ops S K l a → (∀ a', K a' → wpAnyZ P md ops Q S Z fuel (listedOf l.length k listed) a' w) → wpAnyZ P md ops Q S Z (l.length + fuel) listed a w
  | [], k, listed, a, hl, hB, h, hK => by
    simpa [listedOf] using hK a h
  | o :: l, k, listed, a, hl, hB, h, hK => by
    have h0 : ops[k]? = some o := by simpa using (hl 0 (by simp)).symm
    simp only [List.length_cons, headB, Bool.and_eq_true] at hB
    obtain ⟨⟨⟨⟨hr, hf⟩, hv⟩, hz⟩, hB'⟩ := hB
    have hv' : valueOp o.op = true := by rw [h0] at hv; simpa using hv
    have hzz : ∀ j, Z j = true → Region.waitsFor md ops j k = true := fun j hj => by
      have := List.all_eq_true.1 hz j (List.mem_range.2 (hZ j hj))
      simpa [hj] using this
    have hl' : ∀ j, j < l.length → l[j]? = ops[(k + 1) + j]? := fun j hj => by
      have := hl (j + 1) (by simpa using hj)
      simpa [Nat.add_assoc, Nat.add_comm 1 j] using this
    have step : ∀ v, YieldsIf P ops S o v a → wpQuiet P ops S K l (a.put o.dst v) → wpAnyZ P md ops Q S Z ((o :: l).length + fuel) listed a w := fun v hy hq => by
      have ih := wpAnyZ_head hs hQ hZ w hS fuel K l (k + 1) (listed.setIfInBounds k true) (a.put o.dst v) hl' hB' hq (fun a' ha' => by simpa [listedOf] using hK a' ha')
      have := wpAnyZ_first h0 (Region.noSelect_spec hs) (fun c a w => hQ c a _ _ w) hzz (l.length + fuel) listed a w (Region.free_spec h0 hf) (by simpa using hr) hy hS ih
      rw [List.length_cons, Nat.add_right_comm]
      exact this
    unfold wpQuiet at h
    by_cases hw : Region.wanted o (yielded ops a.tmps) = true
    · rw [if_pos hw] at h
      obtain ⟨v, h1, h2⟩ := h
      refine step v (.inl ⟨hw, fun w' hw' => ?_⟩) h2
      have h3 := h1 w' hw'
      unfold Oper.quietAt at h3
      cases hrn : (execOp a.eval o).run P w' with
      | halt y w2 => rw [hrn] at h3; exact h3.elim
      | ok nx w2 =>
        obtain ⟨u, rfl⟩ := value_of_run hv' hrn
        rw [hrn] at h3
        obtain ⟨rfl, rfl⟩ := h3
        rfl
    · rw [if_neg hw] at h
      exact step undef (.inr ⟨by simpa using hw, rfl⟩) h

/-- The one operation that may come up. -/
theorem wpAnyZ_one {t : Nat} {o : Oper} {fuel : Nat} {listed : Array Bool} {a : Act} {w : World} (hr : Region.ready md ops listed = [t]) (ho : ops[t]? = some o) (hg : o.guard = none)
    (h : o.wp P a w (fun a' w' => (Z t = false → S w') ∧ wpAnyZ P md ops Q S Z fuel (listed.setIfInBounds t true) a' w') Q) : wpAnyZ P md ops Q S Z (fuel + 1) listed a w := by
  refine ⟨fun h0 => (by rw [hr] at h0; cases h0), fun i hi => ?_⟩
  rw [hr, List.mem_singleton] at hi
  subst hi
  unfold wpOp
  simp only [ho]
  rw [if_pos (by simp [Region.wanted, hg])]
  exact .inl h

theorem wpAnyZ_done {listed : Array Bool} {a : Act} {w : World} (hr : Region.ready md ops listed = []) (h : Q .normal a w) :
    ∀ fuel, wpAnyZ P md ops Q S Z fuel listed a w
  | 0 => ⟨hr, h⟩
  | _ + 1 => ⟨fun _ => h, by rw [hr]; simp⟩

/-- The beginning. -/
theorem wp_region_head {id : Nat} {a : Act} {w : World} {l : List Oper} (n : Nat) (hm : P.follows .mixedOrders = true) (hs : Region.noSelect l.toArray = true) (hn : n ≤ l.length)
    (hB : headB .any l.toArray Z n 0 (Array.replicate l.length false) = true) (hQ : ∀ c a d v w, Q (.panic c) (Act.put a d v) w → Q (.panic c) a w) (hZ : ∀ j, Z j = true → j < l.length) (hS : S w.drew)
    (h : wpQuiet P l.toArray S (fun a' => wpAnyZ P .any l.toArray Q S Z (l.length - n) (listedOf n 0 (Array.replicate l.length false)) a' w.drew) (l.take n) a) : (Code.region id l.toArray true).wp P Q a w := by
  refine wp_region_any hm (wpAny_of_Z (S := S) (Z := Z) _ _ _ _ ?_)
  have hlen : (l.take n).length = n := by simp [hn]
  have := wpAnyZ_head (md := .any) (Z := Z) hs hQ (by simpa using hZ) w.drew hS (l.length - n) _ (l.take n) 0 (Array.replicate l.length false) a (fun j hj => by
    rw [hlen] at hj
    simp [hj]) (by rw [hlen]; exact hB) h (fun a' ha' => by rw [hlen]; exact ha')
  rw [hlen, show n + (l.length - n) = l.length by omega] at this
  simpa using this
end


/-- A world of a class. -/
structure Cls (C : World → Prop) where
  val : World
  ok : C val

def canEnter (P : Program) (f : FuncId) : Bool :=
  match P.funcs[f]? with
  | some fn => !(fn.name == "runtime.NumGoroutine") && fn.body.isSome
  | none => false
theorem run_enter {P : Program} {f : FuncId} (h : canEnter P f = true) (args : Array Value) (w : World) : (callFunc f args).run P w = .ok (.enter f args) w := by
  unfold canEnter at h
  split at h
  · rename_i fn hf
    simp only [Bool.and_eq_true, Bool.not_eq_true'] at h
    obtain ⟨h1, h2⟩ := h
    have h1' : ¬ (fn.name = "runtime.NumGoroutine") := by simpa using h1
    unfold callFunc
    simp [run_program, hf, h1']
    intro hb
    rw [hb] at h2
    cases h2
  · cases h

theorem wp_call_fn {P : Program} {op : Oper} {a : Act} {w : World} {K : Act → World → Prop} {Q : Exit → Act → World → Prop} {f : FuncId} {args : Array Operand} {ts : Array TypeId}
    (ho : op.op = .call { callee := .value (.func f), args := args, argTypes := ts }) (hf : canEnter P f = true) {R : Ending → World → Prop} {vals : Array Value} (hv : args.map a.eval = vals) (h : Calls P f vals w R)
    (hR : ∀ e w', R e w' → ∃ v, e = .returned v ∧ K (a.put op.dst v) w') : op.wp P a w K Q := by
  subst hv
  unfold Oper.wp execOp
  simp only [ho]
  simp [go_sem]
  rw [run_enter hf]
  refine h.mono fun e w' he => ?_
  obtain ⟨v, rfl, hk⟩ := hR e w' he
  exact hk

theorem wp_alloc_agg {P : Program} {op : Oper} {a : Act} {w : World} {K : Act → World → Prop} {Q : Exit → Act → World → Prop} (t : TypeId) (ho : op.op = .alloc t) (Z : Array Value) (hz : ∀ w, (zeroValue t).run P w = .ok (.agg Z) w)
    (h : K (a.put op.dst (.pointer (some ⟨w.heap.size, 0, none⟩))) (w.alloc (.cells Z t))) : op.wp P a w K Q := by
  unfold Oper.wp execOp
  simp only [ho]
  simp [go_sem, hz]
  exact h

theorem wp_region_cut {P : Program} {id : Nat} {ops : Array Oper} {b : Bool} {Q : Exit → Act → World → Prop} {a : Act} {w : World} (F : Act → World → Prop) (h1 : (Code.region id ops b).wp P (fun e a w => e = .normal ∧ F a w) a w)
    (h2 : ∀ a' w', F a' w' → Q .normal a' w') : (Code.region id ops b).wp P Q a w :=
  Code.wp_mono (fun e a w ⟨he, hF⟩ => he ▸ h2 a w hF) h1

section
variable {P : Program} {ops : Array Oper} {Q : Exit → Act → World → Prop} {md : Region.Mode} {S : World → Prop} {Z : Nat → Bool}
theorem wpAnyZ_take {i : Nat} {oi : Oper} {v : Value} {fuel : Nat} {listed : Array Bool} {a : Act} {w : World} (hi : ops[i]? = some oi)
    (hs : Region.noSelect ops = true) (hf : Region.free md ops listed i = true) (hr : (Region.ready md ops listed).contains i = true)
    (hQ : ∀ c a w, Q (.panic c) (a.put oi.dst v) w → Q (.panic c) a w) (hZ : ∀ j, Z j = true → Region.waitsFor md ops j i = true) (hy : YieldsIf P ops S oi v a) (hS : S w)
    (h : wpAnyZ P md ops Q S Z fuel (listed.setIfInBounds i true) (a.put oi.dst v) w) : wpAnyZ P md ops Q S Z (fuel + 1) listed a w :=
  wpAnyZ_first hi (Region.noSelect_spec hs) hQ hZ fuel listed a w (Region.free_spec hi hf) (by simpa using hr) hy hS h

/-- One of two operations comes up. -/
theorem wpAnyZ_two {t s : Nat} {o o' : Oper} {fuel : Nat} {listed : Array Bool} {a : Act} {w : World} (hr : Region.ready md ops listed = [t, s]) (ho : ops[t]? = some o) (hg : o.guard = none) (ho' : ops[s]? = some o') (hg' : o'.guard = none)
    (h : o.wp P a w (fun a' w' => (Z t = false → S w') ∧ wpAnyZ P md ops Q S Z fuel (listed.setIfInBounds t true) a' w') Q)
    (h' : o'.wp P a w (fun a' w' => (Z s = false → S w') ∧ wpAnyZ P md ops Q S Z fuel (listed.setIfInBounds s true) a' w') Q) : wpAnyZ P md ops Q S Z (fuel + 1) listed a w := by
  refine ⟨fun h0 => (by rw [hr] at h0; cases h0), fun i hi => ?_⟩
  rw [hr] at hi
  simp only [List.mem_cons, List.not_mem_nil, or_false] at hi
  unfold wpOp
  rcases hi with rfl | rfl
  · simp only [ho]
    rw [if_pos (by simp [Region.wanted, hg])]
    exact .inl h
  · simp only [ho']
    rw [if_pos (by simp [Region.wanted, hg'])]
    exact .inl h'
end


end Go.Proofs.Qxb6606006aDoor.Ix
