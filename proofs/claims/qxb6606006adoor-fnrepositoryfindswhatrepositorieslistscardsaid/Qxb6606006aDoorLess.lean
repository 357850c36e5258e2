import Derived.Test.Qxb6606006aDoorPut
import Derived.Laws.Cover1
import Derived.BigQuiet
namespace Go.Proofs.Qxb6606006aDoor.Ix
open Go.RowKit
set_option linter.unusedVariables false
set_option linter.unusedSimpArgs false

theorem bl_irrefl : ∀ x : List UInt8, Op.bytesLess x x = false
  | [] => rfl
  | a :: x => by simp [Op.bytesLess, bl_irrefl x]
theorem bl_trans : ∀ {x y z : List UInt8}, Op.bytesLess x y = true → Op.bytesLess y z = true → Op.bytesLess x z = true
  | _, [], _, h, _ => by simp [Op.bytesLess] at h
  | _, _ :: _, [], _, h => by simp [Op.bytesLess] at h
  | [], _ :: _, _ :: _, _, _ => rfl
  | a :: x, b :: y, c :: z, h, k => by
    simp only [Op.bytesLess, Bool.or_eq_true, decide_eq_true_eq, Bool.and_eq_true, beq_iff_eq] at h k ⊢
    rcases h with h | ⟨h, h'⟩
    · rcases k with k | ⟨k, k'⟩
      · exact Or.inl (UInt8.lt_trans h k)
      · subst k; exact Or.inl h
    · subst h
      rcases k with k | ⟨k, k'⟩
      · exact Or.inl k
      · exact Or.inr ⟨k, bl_trans h' k'⟩
theorem bl_total : ∀ {x y : List UInt8}, Op.bytesLess x y = false → Op.bytesLess y x = false → x = y
  | [], [], _, _ => rfl
  | [], _ :: _, h, _ => by simp [Op.bytesLess] at h
  | _ :: _, [], _, h => by simp [Op.bytesLess] at h
  | a :: x, b :: y, h, k => by
    simp only [Op.bytesLess, Bool.or_eq_false_iff, decide_eq_false_iff_not, Bool.and_eq_false_imp, beq_iff_eq] at h k
    have e : a = b := UInt8.le_antisymm (UInt8.not_lt.1 k.1) (UInt8.not_lt.1 h.1)
    subst e
    rw [bl_total (h.2 rfl) (k.2 rfl)]
theorem bl_drop : ∀ (i : Nat) {x y : List UInt8}, i ≤ x.length → i ≤ y.length → (∀ j, j < i → x[j]? = y[j]?) → Op.bytesLess x y = Op.bytesLess (x.drop i) (y.drop i)
  | 0, _, _, _, _, _ => rfl
  | i + 1, [], _, h, _, _ => by simp at h
  | i + 1, _ :: _, [], _, h, _ => by simp at h
  | i + 1, a :: x, b :: y, h, k, e => by
    have e0 := e 0 (by omega)
    simp at e0
    subst e0
    have := bl_drop i (x := x) (y := y) (by simpa using h) (by simpa using k) (fun j hj => by simpa using e (j + 1) (by omega))
    simp [Op.bytesLess, this]

/-- Less of two strings. -/
def sLess (a b : ByteArray) : Bool := Op.bytesLess a.toList b.toList

theorem toList_size (a : ByteArray) : a.toList.length = a.size := by rw [ByteArray.toList_eq]; rfl
theorem toList_get (a : ByteArray) (j : Nat) (h : j < a.size) : a.toList[j]? = some (a[j]'h) := by
  rw [ByteArray.toList_eq]
  have : j < a.data.toList.length := h
  rw [List.getElem?_eq_getElem this]
  rfl

theorem sLess_short {a b : ByteArray} {k : Nat} (ha : k ≤ a.size) (hb : k ≤ b.size) (h : ∀ j, j < k → a.toList[j]? = b.toList[j]?) (he : ¬ (k < a.size ∧ k < b.size)) : sLess a b = decide (a.size < b.size) := by
  unfold sLess
  rw [bl_drop k (by rw [toList_size]; exact ha) (by rw [toList_size]; exact hb) h]
  by_cases e : k < b.size
  · have e2 : k = a.size := by omega
    have h1 : a.toList.drop k = [] := List.drop_eq_nil_of_le (by rw [toList_size]; omega)
    have h2 : b.toList.drop k ≠ [] := by
      intro hn
      have := congrArg List.length hn
      rw [List.length_drop, toList_size] at this
      simp at this; omega
    rw [h1, decide_eq_true (by omega)]
    cases hd : b.toList.drop k with
    | nil => exact absurd hd h2
    | cons _ _ => rfl
  · have h2 : b.toList.drop k = [] := List.drop_eq_nil_of_le (by rw [toList_size]; omega)
    rw [h2, decide_eq_false (by omega)]
    cases a.toList.drop k <;> rfl

theorem sLess_at {a b : ByteArray} {k : Nat} (ha : k < a.size) (hb : k < b.size) (h : ∀ j, j < k → a.toList[j]? = b.toList[j]?) (hne : (a[k]'ha).toNat ≠ (b[k]'hb).toNat) : sLess a b = decide ((a[k]'ha).toNat < (b[k]'hb).toNat) := by
  unfold sLess
  rw [bl_drop k (by rw [toList_size]; omega) (by rw [toList_size]; omega) h]
  have ga := toList_get a k ha
  have gb := toList_get b k hb
  have la : k < a.toList.length := by rw [toList_size]; exact ha
  have lb : k < b.toList.length := by rw [toList_size]; exact hb
  rw [List.getElem?_eq_getElem la] at ga
  rw [List.getElem?_eq_getElem lb] at gb
  rw [List.drop_eq_getElem_cons la, List.drop_eq_getElem_cons lb, Option.some.inj ga, Option.some.inj gb]
  have e : ((a[k]'ha) == (b[k]'hb)) = false := by
    rw [beq_eq_false_iff_ne]
    intro e; exact hne (by rw [e])
  simp only [Op.bytesLess, e, Bool.false_and, Bool.or_false]
  rw [decide_eq_decide]
  exact UInt8.lt_iff_toNat_lt

def LessPost (a b : ByteArray) (w : World) (e : Ending) (w' : World) : Prop := e = .returned (.bool (sLess a b)) ∧ Below w.heap.size w w'

set_option maxHeartbeats 1000000 in
theorem less_any (a b : ByteArray) (w : World) (ha : a.size ≤ 1048576) (hb : b.size ≤ 1048576) : Calls Tryd.prog 15 #[.string a, .string b] w fun e w' => LessPost a b w e w' := by
  go_enter Tryd.func15, Tryd.ntmps15
  go_wp2_with fail
  go_loopg [5] a.size (fun m i wr => ∃ k : Nat, k ≤ a.size ∧ k ≤ b.size ∧ m = a.size - k ∧ i = .int .i64 k ∧ (∀ j, j < k → a.toList[j]? = b.toList[j]?) ∧ Below w.heap.size w wr)
  case atStart => exact ⟨0, Nat.zero_le _, Nat.zero_le _, rfl, rfl, fun j hj => absurd hj (Nat.not_lt_zero _), Below.refl _ _⟩
  case round =>
    obtain ⟨k, hka, hkb, rfl, rfl, hsame, hwr⟩ := hrel
    have HS : Hid (∀ j, j < k → a.toList[j]? = b.toList[j]?) := hsame
    clear hsame
    by_cases ha1 : k < a.size
    · have ha2 : (k : Int) < (a.size : Int) := by omega
      by_cases hb1 : k < b.size
      · have hb2 : (k : Int) < (b.size : Int) := by omega
        by_cases he : (a[k]'ha1).toNat = (b[k]'hb1).toNat
        · have he2 : (((a[k]'ha1).toNat : Int) != ((b[k]'hb1).toNat : Int)) = false := by simp [he]
          go_wp2_with fail
          go_quiet (fail)
          go_wp2_with fail
          go_roundg (a.size - (k + 1))
          case measure => omega
          case rel =>
            refine ⟨k + 1, by omega, by omega, rfl, by go_num, fun j hj => ?_, below_drewN hwr _⟩
            by_cases e : j = k
            · subst e
              rw [toList_get a j ha1, toList_get b j hb1, UInt8.toNat_inj.1 he]
            · exact HS.out j (by omega)
        · have he2 : (((a[k]'ha1).toNat : Int) != ((b[k]'hb1).toNat : Int)) = true := by simp; omega
          have hl := sLess_at ha1 hb1 HS.out he
          go_wp2_with fail
          go_quiet (fail)
          go_wp2_with fail
          go_quiet (fail)
          go_wp2_with fail
          go_ret
          refine ⟨?_, below_drewN (below_drewN hwr _) _⟩
          rw [hl]; rfl
      · have hb2 : ¬ (k : Int) < (b.size : Int) := by omega
        have hl := sLess_short hka hkb HS.out (by omega)
        rw [decide_eq_false (by omega)] at hl
        have hab : ¬ (a.size : Int) < (b.size : Int) := by omega
        go_wp2_with fail
        go_ret
        refine ⟨?_, hwr⟩
        rw [hl]; rfl
    · have ha2 : ¬ (k : Int) < (a.size : Int) := by omega
      have hl := sLess_short hka hkb HS.out (by omega)
      go_wp2_with fail
      go_ret
      refine ⟨?_, hwr⟩
      rw [hl]; rfl

end Go.Proofs.Qxb6606006aDoor.Ix
