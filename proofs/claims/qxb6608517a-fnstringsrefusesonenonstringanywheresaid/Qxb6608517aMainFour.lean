import Derived.Test.Qxb6608517aPut
import Derived.Test.Qxb6608517aCopy
import Derived.Test.Qxb6608517aBytes
import Derived.Laws.MakeOwn
import Derived.Deep.AppendLies
import Derived.Deep.QuietTactic
import Derived.Maps.AppendAt
namespace Go.Proofs.Qxb6608517a.Ob
open Go.RowKit
set_option linter.unusedVariables false
set_option linter.unusedSimpArgs false

/-- pre, then post. -/
def joined (n1 : Nat) (S1 S3 : Nat → ByteArray) (i : Nat) : ByteArray := if i < n1 then S1 i else S3 (i - n1)
def strs (S : Nat → ByteArray) (k : Nat) : List Value := (List.range k).map (fun i => .string (S i))
theorem strs_succ (S : Nat → ByteArray) (k : Nat) : strs S (k + 1) = strs S k ++ [.string (S k)] := by simp [strs, List.range_succ]

/-- What an own row of strings shows. -/
theorem IsStrs.of_owns {w : World} {B n : Nat} {S : Nat → ByteArray} {v : Value} (h : w.ownsRow B 9 1 v n (strs S n)) : ∃ a b c, v = .slice a n c ∧ IsStrs w a b 0 n S := by
  rcases h.2 with ⟨hv, hn⟩ | ⟨g, cap, cur, hv, hb, hheap, hnc, hcm, hcur, htake⟩
  · subst hn
    exact ⟨none, 0, 0, hv, fun h => absurd h (Nat.lt_irrefl _), fun i hi => absurd hi (Nat.not_lt_zero _)⟩
  · refine ⟨some ⟨g, 0, none⟩, g, cap, hv, fun _ => rfl, fun i hi => ?_⟩
    have hk : (strs S n)[i]? = some (.string (S i)) := by simp [strs, hi]
    rw [← htake, List.getElem?_take_of_lt (by omega)] at hk
    rw [Nat.zero_add]
    simpa [World.cell?, hheap] using hk

theorem ownsRow_below {w w' : World} {base : Nat} {e : TypeId} {size : Nat} {v : Value} {n : Nat} {xs : List Value} (h : w.ownsRow base e size v n xs) (hb : Below w.heap.size w w') : w'.ownsRow base e size v n xs := by
  refine ⟨h.1, ?_⟩
  rcases h.2 with hn | ⟨g, cap, cur, hv, hbg, hgg, rest⟩
  · exact .inl hn
  · exact .inr ⟨g, cap, cur, hv, hbg, by rw [hb.block g (Array.getElem?_eq_some_iff.1 hgg).1]; exact hgg, rest⟩

theorem below_none {w w' : World} (h : w.grownBy w' none) : Below w.heap.size w w' := ⟨h.os, h.tape, h.output, h.size, fun i hi => h.block i hi (by simp)⟩

def MainPost (w : World) (e : Ending) (w' : World) : Prop := e = .returned (.bool true) ∧ Below w.heap.size w w'

set_option maxHeartbeats 4000000 in
set_option maxRecDepth 100000 in
theorem main4_any (s0 : ByteArray) (a1 : Option Addr) (b1 o1 n1 c1 : Nat) (S1 : Nat → ByteArray) (s2 : ByteArray) (a3 : Option Addr) (b3 o3 n3 c3 : Nat) (S3 : Nat → ByteArray) (w : World)
    (hz0 : s0.size ≤ maxLen) (h1 : IsStrs w a1 b1 o1 n1 S1) (hn1 : n1 ≤ maxLen) (hs1 : ∀ i, i < n1 → (S1 i).size ≤ maxLen) (hz2 : s2.size ≤ maxLen) (h3 : IsStrs w a3 b3 o3 n3 S3) (hn3 : n3 ≤ maxLen) (hs3 : ∀ i, i < n3 → (S3 i).size ≤ maxLen) :
    Calls Try.prog 4 #[.string s0, .slice a1 n1 c1, .string s2, .slice a3 n3 c3] w fun e w' => MainPost w e w' := by
  have hby := bytes13_any s0 a1 b1 o1 n1 c1 S1 s2 a3 b3 o3 n3 c3 S3 w hz0 h1 hn1 hs1 hz2 h3 hn3 hs3
  unfold maxLen at hz0 hn1 hz2 hn3
  clear hs1 hs3
  go_enter Try.func4, Try.ntmps4
  go_wp2_with fail
  refine hby.mono ?_
  clear hby
  rintro e w' ⟨b, rfl, hw, hb⟩
  obtain rfl := hw.symm
  clear hw
  cases b with
  | false =>
    clear hb
    go_wp2_with fail
    go_ret
    exact ⟨rfl, Below.refl _ _⟩
  | true =>
    obtain ⟨-, -, hs1, -, -, hs3⟩ := hb rfl
    clear hb
    by_cases l0 : (65536 : Int) < (s0.size : Int)
    · go_wp2_with fail
      go_ret
      exact ⟨rfl, Below.refl _ _⟩
    by_cases l2 : (65536 : Int) < (s2.size : Int)
    · go_wp2_with fail
      go_ret
      exact ⟨rfl, Below.refl _ _⟩
    by_cases l1 : (65536 : Int) < (n1 : Int)
    · go_wp2_with fail
      go_ret
      exact ⟨rfl, Below.refl _ _⟩
    by_cases l3 : (65536 : Int) < (n3 : Int)
    · go_wp2_with fail
      go_ret
      exact ⟨rfl, Below.refl _ _⟩
    have HS : Hid ((∀ i, i < n1 → (S1 i).size ≤ 1048576) ∧ (∀ i, i < n3 → (S3 i).size ≤ 1048576)) := ⟨hs1, hs3⟩
    clear hs1 hs3
    have nq := neqn
    have hmk1 := run_make_row' (P := Try.prog) 22 9 (.string ⟨#[]⟩) 16 Try.underlying22 info9 rfl .i64 .i64 n1 (by omega) (by omega)
    have hmk3 := run_make_row' (P := Try.prog) 22 9 (.string ⟨#[]⟩) 16 Try.underlying22 info9 rfl .i64 .i64 n3 (by omega) (by omega)
    obtain ⟨x1, d1, p1, e1, W1, st1, g1, hW1⟩ := step_any (c := c1) h1
    obtain ⟨x3, d3, p3, e3, W3, st3, g3, hW3⟩ := step_any (c := c3) (h3.below hW1)
    have g1 := g1.below hW3
    have hw := hW1.trans (hW3.mono hW1.size)
    clear h1 h3 hW1 hW3
    rcases st1 with ⟨rfl, rfl, rfl, rfl⟩ | ⟨y1, rfl, rfl, rfl, cp1⟩ <;> rcases st3 with ⟨rfl, rfl, rfl, rfl⟩ | ⟨y3, rfl, rfl, rfl, cp3⟩
    all_goals
      go_wp2_with fail
      clear hmk1 hmk3
      try clear cp1
      try clear cp3
      refine (add_any _ _ _ _ n1 _ S1 W3 g1 (by omega) HS.out.1 (by omega) (by omega)).mono ?_
      rintro e w' ⟨r, rfl, hw', r0, r1⟩
      obtain rfl := hw'.symm
      clear hw'
      by_cases hr : (1048576 : Int) < r
      · go_wp2_with fail
        go_ret
        exact ⟨rfl, hw⟩
      go_wp2_with fail
      refine (add_any _ _ _ _ n3 _ S3 W3 g3 (by omega) HS.out.2 (by omega) (by omega)).mono ?_
      rintro e w' ⟨r', rfl, hw', r0', r1'⟩
      obtain rfl := hw'.symm
      clear hw'
      by_cases hr' : (1048576 : Int) < r'
      · go_wp2_with fail
        go_ret
        exact ⟨rfl, hw⟩
      go_wp2_with fail
      refine (objNum_any s0 _ _ _ n1 _ S1 s2 _ _ _ n3 _ S3 W3 g1 g3 (by omega) (by omega)).mono ?_
      rintro e w4 ⟨m, g, rfl, hm, hg, hw4⟩
      go_wp2_with fail
      refine (strs_bad m g (n1 + 1 + n3) n1 s0 s2 _ S1 w4 (by omega) hm hg (by omega) (fun i hi => by unfold mixed; rw [if_pos hi]) (by unfold mixed; rw [if_neg (by omega), if_pos rfl])).mono ?_
      rintro e w5 ⟨rfl, hw5⟩
      have hw4 := hw4.trans (hw5.mono hw4.size)
      have g1 := g1.below hw4
      have g3 := g3.below hw4
      have hw := hw.trans (hw4.mono hw.size)
      clear hw4 hw5 hm hg
      obtain ⟨i0, hi0, hi1⟩ : ∃ i, Try.prog.info? 9 = some i ∧ (i.zero = some (.string ⟨#[]⟩) ∧ i.size = 1 ∧ i.bytes = 16) := by
        have h := info9
        cases hq : Try.prog.info? 9 with
        | none => rw [hq] at h; simp at h
        | some i => rw [hq] at h; simp at h; exact ⟨i, rfl, h.1, h.2.1, h.2.2⟩
      have HI : Hid (Try.prog.info? 9 = some i0 ∧ i0.zero = some (.string ⟨#[]⟩) ∧ i0.size = 1 ∧ i0.bytes = 16) := ⟨hi0, hi1⟩
      clear hi0 hi1
      obtain ⟨w6, hmk, hown0, hw6⟩ := run_make_own (P := Try.prog) w5 w5.heap.size 22 9 i0 (.string ⟨#[]⟩) 1 Try.underlying22 HI.out.1 HI.out.2.1 HI.out.2.2.1 .i64 .i64 (n1 + n3) (by rw [HI.out.2.2.2]; omega) (by unfold maxLen; omega) (Nat.le_refl _)
      have hw6 := below_none hw6
      have hcz : ((n1 + n3 : Nat) : Int) = (n1 : Int) + (n3 : Int) := by omega
      rw [hcz] at hmk
      go_wp2_with fail
      clear hmk hcz
      have hlen := hw6.size
      go_loopg [14, 15] n1 (fun m jn i wr => ∃ k : Nat, k ≤ n1 ∧ m = n1 - k ∧ i = .int .i64 k ∧ wr.ownsRow w5.heap.size 9 1 jn k (strs (joined n1 S1 S3) k) ∧ Below w5.heap.size w5 wr)
      case atStart => exact ⟨0, Nat.zero_le _, rfl, rfl, hown0, hw6⟩
      case round =>
        obtain ⟨k, hk, rfl, rfl, hown, hbel⟩ := hrel
        clear hown0 hw6
        by_cases hlt : k < n1
        · have hkz : (k : Int) < (n1 : Int) := by omega
          have ht := g1.top (by omega)
          cases ht
          all_goals
            have g0 := (g1.below hbel).cell k hlt
            simp only [Nat.zero_add] at g0
            have hsz := hbel.size
            go_wp2_with (at_builtin; refine wpList_append_own _ rfl (.tmp 97) (.tmp 102) 22 rfl w5.heap.size 9 i0 (.string ⟨#[]⟩) 1 16 Try.underlying22 HI.out.1 HI.out.2.1 HI.out.2.2.1 HI.out.2.2.2 rfl (by decide) _ k _ rfl (hown.alloc _) ⟨wr.heap.size, 0, none⟩ 1 1 [.string (S1 k)] rfl rfl ?c1 ?c2 ?c3 ?c4 ?c5 ?_)
            case c1 => exact cell_one_new _ _ _
            case c2 => intro u hu; simp at hu; subst hu; rfl
            case c3 => unfold maxLen; omega
            case c4 => omega
            case c5 => simp; omega
            intro v' w7 hown2 hgrow _
            have hbel2 : Below w5.heap.size w5 w7 := (hbel.alloc hsz _).grown hgrow (by simp; omega) (fun g hg => (hown.lt g hg).1)
            have hown3 : w7.ownsRow w5.heap.size 9 1 v' (k + 1) (strs (joined n1 S1 S3) (k + 1)) := by
              rw [strs_succ, show joined n1 S1 S3 k = S1 k by unfold joined; rw [if_pos hlt]]
              exact hown2
            clear hown2 hgrow hown hbel g0
            go_wp2_with fail
            go_roundg (n1 - (k + 1))
            case measure => omega
            case rel => exact ⟨k + 1, by omega, rfl, by go_num, hown3, hbel2⟩
        · have hkz : ¬ (k : Int) < (n1 : Int) := by omega
          obtain rfl : n1 = k := by omega
          go_wp2_with fail
          clear hkz
          go_loopg [14, 16] n3 (fun m jn i wr => ∃ k : Nat, k ≤ n3 ∧ m = n3 - k ∧ i = .int .i64 k ∧ wr.ownsRow w5.heap.size 9 1 jn (n1 + k) (strs (joined n1 S1 S3) (n1 + k)) ∧ Below w5.heap.size w5 wr)
          case atStart => exact ⟨0, Nat.zero_le _, rfl, rfl, hown, hbel⟩
          case round =>
            clear hown hbel
            obtain ⟨k, hk, rfl, rfl, hown, hbel⟩ := hrel
            by_cases hlt : k < n3
            · have hkz : (k : Int) < (n3 : Int) := by omega
              have ht := g3.top (by omega)
              cases ht
              all_goals
                have g0 := (g3.below hbel).cell k hlt
                simp only [Nat.zero_add] at g0
                have hsz := hbel.size
                go_wp2_with (at_builtin; refine wpList_append_own _ rfl (.tmp 110) (.tmp 115) 22 rfl w5.heap.size 9 i0 (.string ⟨#[]⟩) 1 16 Try.underlying22 HI.out.1 HI.out.2.1 HI.out.2.2.1 HI.out.2.2.2 rfl (by decide) _ (n1 + k) _ rfl (hown.alloc _) ⟨wr.heap.size, 0, none⟩ 1 1 [.string (S3 k)] rfl rfl ?c1 ?c2 ?c3 ?c4 ?c5 ?_)
                case c1 => exact cell_one_new _ _ _
                case c2 => intro u hu; simp at hu; subst hu; rfl
                case c3 => unfold maxLen; omega
                case c4 => omega
                case c5 => simp; omega
                intro v' w7 hown2 hgrow _
                have hbel2 : Below w5.heap.size w5 w7 := (hbel.alloc hsz _).grown hgrow (by simp; omega) (fun g hg => (hown.lt g hg).1)
                have hown3 : w7.ownsRow w5.heap.size 9 1 v' (n1 + (k + 1)) (strs (joined n1 S1 S3) (n1 + (k + 1))) := by
                  rw [← Nat.add_assoc, strs_succ, show joined n1 S1 S3 (n1 + k) = S3 k by unfold joined; rw [if_neg (by omega), show n1 + k - n1 = k by omega]]
                  exact hown2
                clear hown2 hgrow hown hbel g0
                go_wp2_with fail
                go_roundg (n3 - (k + 1))
                case measure => omega
                case rel => exact ⟨k + 1, by omega, rfl, by go_num, hown3, hbel2⟩
            · have hkz : ¬ (k : Int) < (n3 : Int) := by omega
              obtain rfl : n3 = k := by omega
              obtain ⟨aj, bj, cj, rfl, hj⟩ := IsStrs.of_owns hown
              clear hown
              go_wp2_with fail
              refine (objs_any s0 aj bj 0 (n1 + n3) cj _ wr hj (by omega)).mono ?_
              rintro e w8 ⟨m, g, rfl, hm, hg, hw8⟩
              have hj := hj.below hw8
              have hbel := hbel.trans (hw8.mono hbel.size)
              clear hw8
              go_wp2_with fail
              refine (strs_good m g (n1 + n3) s0 _ w8 (by omega) hm hg).mono ?_
              rintro e w9 ⟨gb, rfl, hrow, hle, hw9⟩
              have hj := hj.below hw9
              have hbel := hbel.trans (hw9.mono hbel.size)
              clear hw9 hm hg
              have eq := eqn
              go_wp2_with fail
              refine (same_any _ _ _ _ _ _ _ _ (n1 + n3) _ w9 (IsStrs.of_row hrow) hj (by omega)).mono ?_
              rintro e w10 ⟨rfl, hw10⟩
              have hbel := hbel.trans (hw10.mono hbel.size)
              go_wp2_with fail
              go_ret
              exact ⟨rfl, hw.trans (hbel.mono hw.size)⟩

end Go.Proofs.Qxb6608517a.Ob
