import Derived.Test.Qxb6606006aDoorLS
import Derived.StillTail
import Derived.Maps.AppendAt
namespace Go
/-- A region whose first n operations only read, in whatever order, and whose rest is forced: the first part by the quiet walk. -/
theorem wpStill_of_quiet {P : Program} {ops : Array Oper} {w : World} {Q : Act → Prop} : ∀ (l : List Oper) (a : Act), wpQuiet P ops (fun w' => w' = w) Q l a → wpStill P ops w Q l a
  | [], a, h => h
  | o :: l, a, h => by
    unfold wpQuiet at h
    unfold wpStill
    split
    · rename_i hw
      rw [if_pos hw] at h
      obtain ⟨v, h1, h2⟩ := h
      have h1 := h1 w rfl
      have h3 := wpStill_of_quiet l _ h2
      unfold Oper.quietAt at h1
      unfold Oper.still
      generalize (execOp a.eval o).run P w = r at h1 ⊢
      unfold Oper.quietUpon at h1
      unfold Oper.stillUpon
      split at h1
      · obtain ⟨rfl, rfl⟩ := h1
        exact ⟨rfl, h3⟩
      · obtain ⟨rfl, rfl⟩ := h1
        exact ⟨rfl, h3⟩
      · obtain ⟨rfl, hc⟩ := h1
        exact ⟨rfl, v, hc, h3⟩
      · exact h1.elim
    · rename_i hw
      rw [if_neg hw] at h
      exact wpStill_of_quiet l _ h

theorem wp_region_quiet_tail {P : Program} {id : Nat} {Q : Exit → Act → World → Prop} {a : Act} {w : World} {l : List Oper} (n : Nat) (hm : P.follows .mixedOrders = true) (hB : Region.lexTailB .any l.toArray n = true)
    (h : wpQuiet P l.toArray (fun w' => w' = w.drew) (fun a' => wpList P l.toArray Q (l.drop n) a' w.drew) (l.take n) a) : (Code.region id l.toArray true).wp P Q a w :=
  wp_region_still_tail n hm hB (wpStill_of_quiet _ _ h)
end Go
namespace Go.Proofs.Qxb6606006aDoor.Ix
open Go.RowKit
set_option linter.unusedVariables false

theorem strOfNums_bytes (s : ByteArray) : strOfNums ((List.range s.size).map (byteAt s)) = s := by
  have h : (List.range s.size).map (fun j => UInt8.ofNat (byteAt s j).toNat) = s.data.toList := by
    apply List.ext_getElem?
    intro j
    by_cases hj : j < s.size
    · have hj2 : j < s.data.toList.length := by simpa using hj
      rw [List.getElem?_eq_getElem (by simpa using hj), List.getElem?_eq_getElem hj2]
      simp [byteAt, hj]
      rfl
    · simp [hj]
  unfold strOfNums
  rw [List.map_map]
  show (⟨((List.range s.size).map (fun j => UInt8.ofNat (byteAt s j).toNat)).toArray⟩ : ByteArray) = s
  rw [h]

theorem conv_any (w : World) (g p : Nat) (A : Addr) (s : ByteArray) (c : Nat) (hcell : ∀ j, j < s.size → w.cell? ⟨g, p + j, none⟩ = some (.int .u8 (byteAt s j))) (hA : 0 < s.size → A = ⟨g, p, none⟩) (hA0 : A.spot = none) :
    (convert 23 9 (.slice (some A) s.size c)).run Tryd.prog w = .ok (.string s) w := by
  obtain ⟨b, o, sp⟩ := A
  obtain rfl : sp = none := hA0
  have h := run_convert_bytes_arg (P := Tryd.prog) w 23 5 Tryd.underlying23 Tryd.underlying5 b o s.size c ((List.range s.size).map (byteAt s)) (by simp) (fun i hi => ?_) 9 Tryd.underlying9
  · rw [strOfNums_bytes] at h
    exact h
  · have := hA (by omega)
    simp only [Addr.mk.injEq, and_true] at this
    obtain ⟨rfl, rfl⟩ := this
    rw [hcell i hi]
    simp [hi]

end Go.Proofs.Qxb6606006aDoor.Ix
