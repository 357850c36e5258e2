import Derived.Test.Qxb6608517aDoorGet
import Derived.Laws.CopyOwn
import Derived.Lib.LazyBuf
namespace Go.Proofs.Qxb6608517aDoor.Ob
open Go.RowKit
set_option linter.unusedVariables false
set_option linter.unusedSimpArgs false

theorem eqn (w : World) (a : Option Addr) (n c n' c' : Nat) : (binOp .eql 29 (.slice a n c) (.slice none n' c')).run Tryd.prog w = .ok (.bool a.isNone) w := Lib.run_eql_slice_nil w _ _ a n c n' c' Tryd.underlying29
theorem neqn (w : World) (a : Option Addr) (n c : Nat) : (binOp .neq 29 (.slice a n c) (.slice none 0 0)).run Tryd.prog w = .ok (.bool (!a.isNone)) w := Go.run_neq_slice_nil w _ _ a n c Tryd.underlying29

theorem IsStrs.of_row {w : World} {b n : Nat} {S : Nat → ByteArray} (h : w.rowIs b 9 n (fun i => .string (S i))) : IsStrs w (some ⟨b, 0, none⟩) b 0 n S :=
  ⟨fun _ => rfl, fun i hi => by rw [Nat.zero_add]; exact h.cell hi⟩

/-- 'if s != nil { c := make([]string, len(s)); copy(c, s); s = c }' -/
def Step (a : Option Addr) (n c : Nat) (w : World) (a' : Option Addr) (c' : Nat) (W : World) : Prop :=
  (a = none ∧ a' = none ∧ c' = c ∧ W = w) ∨ ∃ x, a = some x ∧ a' = some ⟨w.heap.size, 0, none⟩ ∧ n = c' ∧
    ∀ ty, (Builtin.copy_ #[29, 29] ty #[.slice (some ⟨w.heap.size, 0, none⟩) n n, .slice (some x) n c]).run Tryd.prog (w.alloc (.cells (madeCells #[.string ⟨#[]⟩] n) 9)) = .ok (.int .i64 n) W

theorem step_any {a : Option Addr} {b o n c : Nat} {S : Nat → ByteArray} {w : World} (h : IsStrs w a b o n S) : ∃ a' b' o' c' W, Step a n c w a' c' W ∧ IsStrs W a' b' o' n S ∧ Below w.heap.size w W := by
  cases a with
  | none => exact ⟨none, b, o, c, w, Or.inl ⟨rfl, rfl, rfl, rfl⟩, h, Below.refl _ _⟩
  | some x =>
    have hs : (Tryd.prog.info? 9).map (·.size) = some 1 := by kernel_rfl
    have hmade := World.rowIs_made w (.string ⟨#[]⟩) n 9
    have hg : (w.alloc (.cells (madeCells #[.string ⟨#[]⟩] n) 9)).heap[w.heap.size]? = some (.cells (madeCells #[.string ⟨#[]⟩] n) 9 (0, 0)) := heap_new _ _
    have hsz : (madeCells #[Value.string ⟨#[]⟩] n).size = n := size_madeCells _ _
    have hrun := fun ty => run_copy_row (P := Tryd.prog) (w.alloc (.cells (madeCells #[.string ⟨#[]⟩] n) 9)) 29 29 ty 9 w.heap.size 0 n n x n c (madeCells #[.string ⟨#[]⟩] n) 9 ((List.range n).map (fun i => Value.string (S i))) Tryd.underlying29 hs hg (by simp)
      (fun j v hv => by
        have hj : j < n := by
          have := List.getElem?_eq_some_iff.1 hv
          simpa using this.1
        have hv : v = .string (S j) := by simpa [hj] using hv.symm
        subst hv
        have ht := h.top (by omega)
        obtain rfl := Option.some.inj ht
        have hc := h.cell j hj
        have hlt := World.block_lt_of_cell? _ _ hc
        rw [World.cell?_alloc_old _ _ _ (by
          show ((⟨b, o, none⟩ : Addr).add j).block ≠ _
          have : ((⟨b, o, none⟩ : Addr).add j).block = b := by unfold Addr.add; split <;> rfl
          rw [this]; exact Nat.ne_of_lt hlt)]
        have : (⟨b, o, none⟩ : Addr).add j = ⟨b, o + j, none⟩ := by
          unfold Addr.add; split <;> simp_all
        rw [this]; exact hc)
      (by simp [hsz]) (fun v hv => by
        obtain ⟨i, _, rfl⟩ := List.mem_map.1 hv
        rfl)
    have e : ((madeCells #[Value.string ⟨#[]⟩] n).toList.take 0 ++ (List.range n).map (fun i => Value.string (S i)) ++ (madeCells #[Value.string ⟨#[]⟩] n).toList.drop (0 + ((List.range n).map (fun i => Value.string (S i))).length)) = (List.range n).map (fun i => Value.string (S i)) := by
      rw [List.take_zero, List.nil_append, List.drop_eq_nil_of_le (by simp [hsz]), List.append_nil]
    rw [e] at hrun
    refine ⟨some ⟨w.heap.size, 0, none⟩, w.heap.size, 0, n, (w.alloc (.cells (madeCells #[.string ⟨#[]⟩] n) 9)).setRow w.heap.size ((List.range n).map (fun i => Value.string (S i))).toArray, Or.inr ⟨x, rfl, rfl, rfl, fun ty => ?_⟩, IsStrs.of_row ⟨_, setRow_heap _ _ _ _ _ _ hg, ?_, fun i hi => ?_⟩, below_setRow ((Below.refl _ _).alloc (Nat.le_refl _) _) (Nat.le_refl _) _⟩
    · have := hrun ty
      simpa [goInt] using this
    · simp
    · simp [hi]

end Go.Proofs.Qxb6608517aDoor.Ob
