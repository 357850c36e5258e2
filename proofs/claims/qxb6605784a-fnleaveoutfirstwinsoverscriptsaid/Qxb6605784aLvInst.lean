import Derived.Test.Qxb6605784aLvVer
namespace Go.Proofs.Qxb6605784a.Leave
open Go.RowKit
open Extern.Stop (cell)
set_option linter.unusedVariables false

def hasZero (P : Program) (t : TypeId) (k : Nat) : Bool :=
  match P.info? t with
  | some i => (match i.zero with
    | some (.agg Z) => decide (k ≤ Z.size)
    | _ => false)
  | none => false
theorem zero_of_has {P : Program} {t : TypeId} {k : Nat} (h : hasZero P t k = true) : ∃ Z : Array Value, k ≤ Z.size ∧ ∀ w, (zeroValue t).run P w = .ok (.agg Z) w := by
  unfold hasZero at h
  split at h
  · rename_i i hi
    split at h
    · rename_i Z hz
      exact ⟨Z, of_decide_eq_true h, fun w => by simp [zeroValue, typeInfo, hi, hz]⟩
    · cases h
  · cases h

/-- The object at block I: its 'outside' is p. -/
def IsInst (w : World) (I : Nat) (p : Option Addr) : Prop := ∃ (n : Nat) (V : Nat → Value), 12 ≤ n ∧ w.rowIs I 82 n V ∧ V 11 = .pointer p

theorem IsInst.of_block {w w' : World} {I : Nat} {p : Option Addr} (h : IsInst w I p) (e : w'.heap[I]? = w.heap[I]?) : IsInst w' I p := by
  obtain ⟨n, V, hn, hr, hv⟩ := h
  exact ⟨n, V, hn, hr.of_block e, hv⟩

def InstPost (w : World) (e : Ending) (w' : World) : Prop := ∃ I, e = .returned (.pointer (some ⟨I, 0, none⟩)) ∧ w.heap.size ≤ I ∧ IsInst w' I none ∧ Below w.heap.size w w'

set_option maxHeartbeats 1000000 in
set_option maxRecDepth 100000 in
theorem inst_any (w : World) : Calls Try.prog 14 #[.pointer none] w fun e w' => InstPost w e w' := by
  obtain ⟨Z, hZ, hz⟩ := zero_of_has (P := Try.prog) (t := 82) (k := 12) (by kernel_rfl)
  have hZ' : ¬ Z.size < 12 := by omega
  go_enter Try.func14, Try.ntmps14
  go_wp2
  go_ret
  refine ⟨w.heap.size, rfl, Nat.le_refl _, ⟨Z.size, fun i => if i = 11 then .pointer none else (Z[i]?).getD default, hZ, ?_, rfl⟩, (Below.refl _ _).alloc (Nat.le_refl _) _⟩
  have h := World.rowIs_alloc w (Z.setIfInBounds 11 (.pointer none)) 82 (fun i => if i = 11 then .pointer none else (Z[i]?).getD default) (fun i hi => by
    rw [Array.getElem?_setIfInBounds]
    by_cases e : 11 = i
    · rw [if_pos e, if_pos (by omega), if_pos e.symm]
    · rw [if_neg e, if_neg (fun x => e x.symm)]
      have : i < Z.size := by simpa using hi
      simp [this])
  simpa using h

theorem grownBy_trans {a b c : World} {row : Option Nat} (h : a.grownBy b row) (k : b.grownBy c row) : a.grownBy c row :=
  ⟨k.os.trans h.os, k.tape.trans h.tape, k.output.trans h.output, Nat.le_trans h.size k.size, fun i hi hn => (k.block i (Nat.lt_of_lt_of_le hi h.size) hn).trans (h.block i hi hn)⟩
theorem grownBy_below {a b : World} (h : Below a.heap.size a b) (row : Option Nat) : a.grownBy b row := ⟨h.os, h.tape, h.output, h.size, fun k hk _ => h.block k hk⟩
theorem grownBy_setI {a b : World} {I : Nat} (h : a.grownBy b (some I)) (k : Nat) (v : Value) : a.grownBy (b.setCell ⟨I, k, none⟩ v) (some I) :=
  ⟨h.os, h.tape, h.output, by simpa [World.setCell] using h.size, fun i hi hn => by
    rw [Below.heap_setCell _ _ _ _ (by show i ≠ I; exact fun e => hn (by rw [e]))]; exact h.block i hi hn⟩
theorem rangeAt_grownBy {a b : World} {I g o : Nat} {cs : List Value} (h : a.rangeAt g o cs) (k : a.grownBy b (some I)) (hne : g ≠ I) : b.rangeAt g o cs := fun j v hv => by
  have hc := h j v hv
  have hb := k.block g (World.block_lt_of_cell? _ _ hc) (fun e => hne (Option.some.inj e))
  rw [World.cell?_of_block (a := ⟨g, o + j, none⟩) hb]
  exact hc

/-- What 'leaveOut' leaves. -/
def LeavePost (I : Nat) (cs : List Value) (p : Option Addr) (w : World) (e : Ending) (w' : World) : Prop :=
  e = .returned (.tuple #[]) ∧ w.grownBy w' (some I) ∧ (match p with
    | none => ∃ g, w.heap.size ≤ g ∧ IsInst w' I (some ⟨g, 0, none⟩) ∧ w'.rangeAt g 0 cs
    | some q => IsInst w' I (some q))

set_option maxHeartbeats 1000000 in
set_option maxRecDepth 100000 in
theorem leave_any (I : Nat) (cs : List Value) (p : Option Addr) (w : World) (h : IsInst w I p) :
    Calls Try.prog 26 #[.pointer (some ⟨I, 0, none⟩), .agg cs.toArray] w fun e w' => LeavePost I cs p w e w' := by
  obtain ⟨n, V, hn, hr, hv⟩ := h
  have hne : I ≠ w.heap.size := Nat.ne_of_lt hr.lt
  have c0 : (w.alloc (.cells cs.toArray 40)).cell? ⟨I, 11, none⟩ = some (.pointer p) := by rw [← hv]; exact (hr.alloc _).cell (by omega)
  have f0 := (hr.alloc (.cells cs.toArray 40)).frozen 11
  have hg := World.grownBy_alloc w (.cells cs.toArray 40) (some I)
  have hra := rangeAt_new w cs 40
  go_enter Try.func26, Try.ntmps26
  cases p with
  | none =>
    go_wp2
    go_end0
    refine ⟨rfl, grownBy_setI hg _ _, w.heap.size, Nat.le_refl _, ⟨n, _, hn, (hr.alloc _).set 11 _, rfl⟩, fun j v hv => ?_⟩
    rw [World.cell?_setCell_other _ _ _ _ (fun e => hne (congrArg Addr.block e))]
    exact hra j v hv
  | some q =>
    go_wp2
    go_end0
    exact ⟨rfl, hg, n, V, hn, hr.alloc _, hv⟩

set_option maxHeartbeats 1000000 in
set_option maxRecDepth 100000 in
theorem zleave_any (I : Nat) (cs : List Value) (p : Option Addr) (w : World) (h : IsInst w I p) (hl : cs.length = 161) :
    Calls Try.prog 15 #[.pointer (some ⟨I, 0, none⟩), .agg cs.toArray] w fun e w' => LeavePost I cs p w e w' := by
  have hra := rangeAt_new w cs 40
  have hi : (Try.prog.info? 40).map (·.size) = some cs.length := by rw [hl]; exact size40
  have hg := World.grownBy_alloc w (.cells cs.toArray 40) (some I)
  have h' : IsInst (w.alloc (.cells cs.toArray 40)) I p := by
    obtain ⟨n, V, hn, hr, hv⟩ := h
    exact ⟨n, V, hn, hr.alloc _, hv⟩
  go_enter Try.func15, Try.ntmps15
  go_wp2_with (first | (refine wpList_load_mid rfl 40 (.tmp 3) rfl _ _ rfl _ _ hra Try.underlying40 rfl hi ?_) | fail)
  refine (leave_any I cs p _ h').mono ?_
  rintro _ w' ⟨rfl, hg', hp⟩
  go_wp2
  go_end0
  refine ⟨rfl, grownBy_trans hg hg', ?_⟩
  cases p with
  | none =>
    obtain ⟨g, hge, h1, h2⟩ := hp
    exact ⟨g, by simp at hge; omega, h1, h2⟩
  | some q => exact hp

set_option maxHeartbeats 1000000 in
theorem out_any (I : Nat) (p : Option Addr) (w : World) (h : IsInst w I p) :
    Calls Try.prog 16 #[.pointer (some ⟨I, 0, none⟩)] w fun e w' => e = .returned (.pointer p) ∧ w' = w := by
  obtain ⟨n, V, hn, hr, hv⟩ := h
  have c0 : w.cell? ⟨I, 11, none⟩ = some (.pointer p) := by rw [← hv]; exact hr.cell (by omega)
  go_enter Try.func16, Try.ntmps16
  go_wp2
  go_ret
  exact ⟨rfl, rfl⟩

end Go.Proofs.Qxb6605784a.Leave
