import Derived.Test.Qxb6606006aClone
import Derived.Test.Qxb6606006aPlain
import Derived.Maps.AppendAt
import Derived.Deep.AppendLies
namespace Go.Proofs.Qxb6606006a.Post
open Go.RowKit

/-- The builder's 4096 buckets, all nil. -/
def zb : Array Value := Array.replicate 4096 (.slice none 0 0)
theorem zb_zero (w : World) : (zeroValue 41).run Try.prog w = .ok (.agg zb) w := by kernel_rfl

set_option maxHeartbeats 400000 in
theorem new_any (w : World) : Calls Try.prog 8 #[] w fun e w' => e = .returned (.pointer (some ⟨w.heap.size, 0, none⟩)) ∧ w' = w.alloc (.cells zb 41) := by
  have hb := zb_zero
  go_enter Try.func8, Try.ntmps8
  go_wp2
  go_ret
  exact ⟨rfl, rfl⟩

theorem info26 : (Try.prog.info? 26).map (fun i => (i.zero, i.size, i.bytes)) = some (some (.int .u64 0), 1, 8) := by kernel_rfl

/-- THE BUILDER at block B: bucket k owns the entries 'F k'; no two buckets share an array. -/
def Bk (w : World) (B : Nat) (F : Nat → List Int) : Prop :=
  ∃ V : Nat → Value, w.rowIs B 41 4096 V ∧ (∀ k, k < 4096 → w.ownsRow (B + 1) 26 1 (V k) (F k).length ((F k).map (Value.int .u64))) ∧
    ∀ j k, j < 4096 → k < 4096 → j ≠ k → (V j).ownBlock = none ∨ (V j).ownBlock ≠ (V k).ownBlock

theorem bk_start (w : World) : Bk (w.alloc (.cells zb 41)) w.heap.size (fun _ => []) := by
  refine ⟨fun _ => .slice none 0 0, ?_, fun k _ => World.ownsRow_nil _ _ _ _, fun _ _ _ _ _ => .inl rfl⟩
  have h := World.rowIs_alloc w zb 41 (fun _ => .slice none 0 0) (fun i hi => by
    simp [zb] at hi
    simp [zb, hi])
  have e : zb.size = 4096 := by simp [zb]
  rw [e] at h
  exact h

theorem Bk.congr {w : World} {B : Nat} {F F' : Nat → List Int} (h : Bk w B F) (e : ∀ k, k < 4096 → F k = F' k) : Bk w B F' := by
  obtain ⟨V, h1, h2, h3⟩ := h
  exact ⟨V, h1, fun k hk => by rw [← e k hk]; exact h2 k hk, h3⟩

/-- Old blocks keep their number; a new block is none of them. -/
theorem own_lt {w : World} {base : Nat} {e : TypeId} {size : Nat} {v : Value} {n : Nat} {xs : List Value} (h : w.ownsRow base e size v n xs) : v.ownBlock = none ∨ ∃ g, v.ownBlock = some g ∧ base ≤ g ∧ g < w.heap.size := by
  cases hv : v.ownBlock with
  | none => exact .inl rfl
  | some g => exact .inr ⟨g, rfl, h.lt g hv⟩

theorem owns_form {w : World} {base : Nat} {e : TypeId} {size : Nat} {v : Value} {n : Nat} {xs : List Value} (h : w.ownsRow base e size v n xs) : ∃ ao cp, v = .slice ao n cp := by
  rcases h.2 with ⟨rfl, rfl⟩ | ⟨g, cap, cur, rfl, _⟩
  · exact ⟨_, _, rfl⟩
  · exact ⟨_, _, rfl⟩

/-- WHAT ONE 'append' AND THE STORE BEHIND IT MAKE OF THE BUILDER. -/
theorem bk_put {wr w1 : World} {B k n cp : Nat} {F : Nat → List Int} {V : Nat → Value} {ao : Option Addr} {x : Int} {o : Obj} {v' : Value}
    (hV : wr.rowIs B 41 4096 V) (hown : ∀ k, k < 4096 → wr.ownsRow (B + 1) 26 1 (V k) (F k).length ((F k).map (Value.int .u64)))
    (hdis : ∀ j k, j < 4096 → k < 4096 → j ≠ k → (V j).ownBlock = none ∨ (V j).ownBlock ≠ (V k).ownBlock) (hk : k < 4096) (hVk : V k = .slice ao n cp) (hn : n = (F k).length)
    (hown' : w1.ownsRow (B + 1) 26 1 v' (n + 1) ((F k).map (Value.int .u64) ++ [.int .u64 x])) (hgrow : (wr.alloc o).grownBy w1 (Value.ownBlock (.slice ao n cp)))
    (hat : v'.ownBlock = Value.ownBlock (.slice ao n cp) ∨ v'.ownBlock = some (wr.alloc o).heap.size) :
    Bk (w1.setCell ⟨B, k, none⟩ v') B (fun j => if j = k then F j ++ [x] else F j) ∧ Below B wr (w1.setCell ⟨B, k, none⟩ v') := by
  have hlt := hV.lt
  have hrow : ∀ g, Value.ownBlock (.slice ao n cp) = some g → B + 1 ≤ g ∧ g < wr.heap.size := fun g hg => (hown k hk).lt g (by rw [hVk]; exact hg)
  have hne : ∀ g, g ≤ B → some g ≠ Value.ownBlock (.slice ao n cp) := fun g hg e => by have := hrow g e.symm; omega
  have hsz : (wr.alloc o).heap.size = wr.heap.size + 1 := by simp
  have hblk : ∀ g, g ≤ B → w1.heap[g]? = wr.heap[g]? := fun g hg => by rw [hgrow.block g (by omega) (hne g hg), Below.heap_alloc _ _ _ (by omega)]
  have hV1 : w1.rowIs B 41 4096 V := hV.of_block (hblk B (Nat.le_refl _))
  refine ⟨⟨fun j => if j = k then v' else V j, hV1.set k v', fun j hj => ?_, fun i j hi hj hij => ?_⟩, ?_⟩
  · by_cases e : j = k
    · subst e
      simp only [if_pos, List.length_append, List.length_cons, List.length_nil, List.map_append, List.map_cons, List.map_nil]
      rw [← hn]
      exact ownsRow_setCell_below hown' (by show B < B + 1; omega) _
    · simp only [if_neg e]
      have h1 := (hown j hj).alloc o
      refine ownsRow_setCell_below (h1.kept hgrow ?_) (by show B < B + 1; omega) _
      have := hdis j k hj hk e
      rwa [hVk] at this
  · have new : ∀ j, j < 4096 → j ≠ k → (V j).ownBlock = none ∨ (V j).ownBlock ≠ v'.ownBlock := fun j hj hjk => by
      rcases hat with hat | hat
      · rw [hat, ← hVk]; exact hdis j k hj hk hjk
      · rcases own_lt (hown j hj) with h | ⟨g, h, _, hg⟩
        · exact .inl h
        · refine .inr (fun e => ?_)
          rw [h, hat, hsz] at e
          have := Option.some.inj e
          omega
    by_cases ei : i = k
    · subst ei
      have hji : j ≠ i := fun e => hij e.symm
      simp only [if_pos, if_neg hji]
      rcases new j hj hji with h | h
      · rw [h]
        cases hv : v'.ownBlock with
        | none => exact .inl rfl
        | some g => exact .inr (by simp)
      · exact .inr (fun e => h e.symm)
    · by_cases ej : j = k
      · subst ej
        simp only [if_pos, if_neg ei]
        exact new i hi ei
      · simp only [if_neg ei, if_neg ej]
        exact hdis i j hi hj hij
  · have h1 : Below B wr w1 := ⟨hgrow.os, hgrow.tape, hgrow.output, Nat.le_trans (by omega) hgrow.size, fun g hg => hblk g (by omega)⟩
    exact h1.setCell (Nat.le_refl _) _

theorem bk_form {w : World} {B k n cp : Nat} {F : Nat → List Int} {V : Nat → Value} {ao : Option Addr} {o : Obj} {w1 : World}
    (hV : w.rowIs B 41 4096 V) (hown : w.ownsRow (B + 1) 26 1 (V k) (F k).length ((F k).map (Value.int .u64))) (hk : k < 4096) (hVk : V k = .slice ao n cp) (hgrow : (w.alloc o).grownBy w1 (Value.ownBlock (.slice ao n cp))) :
    w1.cell? ⟨B, k, none⟩ = some (.slice ao n cp) ∧ w1.frozen? ⟨B, k, none⟩ = false := by
  have hlt := hV.lt
  have hne : some B ≠ Value.ownBlock (.slice ao n cp) := fun e => by have := hown.lt B (by rw [hVk]; exact e.symm); omega
  have hsz : (w.alloc o).heap.size = w.heap.size + 1 := by simp
  have hV1 : w1.rowIs B 41 4096 V := hV.of_block (by rw [hgrow.block B (by omega) hne, Below.heap_alloc _ _ _ (by omega)])
  exact ⟨by rw [hV1.cell hk, hVk], hV1.frozen k⟩

def AddPost (B : Nat) (w : World) (F : Nat → List Int) (e : Ending) (w' : World) : Prop := e = .returned (.tuple #[]) ∧ Bk w' B F ∧ Below B w w'

set_option maxHeartbeats 400000 in
theorem add_any (B : Nat) (id : Int) (a : Option Addr) (L C RB RO : Nat) (Z : Nat → Int) (F : Nat → List Int) (w : World)
    (hid : 0 ≤ id) (hid2 : id < 4503599627370496) (hL : L ≤ 1048576) (hF : ∀ k, k < 4096 → (F k).length + L ≤ 1073741824)
    (hrow : ∀ c, c < L → a = some ⟨RB, RO, none⟩ ∧ w.cell? ⟨RB, RO + c, none⟩ = some (.int .u32 (Z c))) (hRB : 0 < L → RB < B) (hZ : ∀ c, c < L → 0 ≤ Z c ∧ Z c < 16777216) (hb : Bk w B F) :
    Calls Try.prog 15 #[.pointer (some ⟨B, 0, none⟩), .int .i64 id, .slice a L C] w fun e w' => AddPost B w (fun k => F k ++ bk id Z k L) e w' := by
  obtain ⟨i0, hi, hi0, hi1, hi2⟩ := info_parts info26
  have HI : Hid (Try.prog.info? 26 = some i0 ∧ i0.zero = some (.int .u64 0) ∧ i0.size = 1 ∧ i0.bytes = 8) := ⟨hi, hi0, hi1, hi2⟩
  clear hi hi0 hi1 hi2
  go_enter Try.func15, Try.ntmps15
  go_wp2
  go_loopg [11] L (fun g i wr => ∃ c : Nat, c ≤ L ∧ g = L - c ∧ i = .int .i64 c ∧ Bk wr B (fun k => F k ++ bk id Z k c) ∧ Below B w wr)
  case atStart => exact ⟨0, Nat.zero_le _, rfl, rfl, by simpa [bk] using hb, Below.refl _ _⟩
  case round =>
    obtain ⟨c, hc, rfl, rfl, hB, hbel⟩ := hrel
    by_cases hlt : c < L
    · have hcz : (c : Int) < (L : Int) := by omega
      obtain ⟨rfl, hcell⟩ := hrow c hlt
      have g0 : wr.cell? ⟨RB, RO + c, none⟩ = some (.int .u32 (Z c)) := by rw [hbel.cell (p := ⟨RB, RO + c, none⟩) (hRB (by omega))]; exact hcell
      obtain ⟨hz0, hz1⟩ := hZ c hlt
      clear hcell hrow hZ
      obtain ⟨V, hV, hown, hdis⟩ := hB
      have hk : (Z c / 4096).toNat < 4096 := by omega
      have hown1 := hown _ hk
      have hbd := bk_le id Z (Z c / 4096).toNat c
      have hFk := hF _ hk
      obtain ⟨n, hn⟩ : ∃ n, n = (F (Z c / 4096).toNat ++ bk id Z (Z c / 4096).toNat c).length := ⟨_, rfl⟩
      have hn1 : n + 1 ≤ 1073741824 := by rw [hn, List.length_append]; omega
      rw [← hn] at hown1
      have HN : Hid (n = (F (Z c / 4096).toNat ++ bk id Z (Z c / 4096).toNat c).length) := hn
      clear hn hbd hFk hF
      obtain ⟨ao, cp, hVk⟩ := owns_form hown1
      have g1 : wr.cell? ⟨B, (Z c / 4096).toNat, none⟩ = some (.slice ao n cp) := by rw [hV.cell hk, hVk]
      have g2 : wr.frozen? ⟨B, (Z c / 4096).toNat, none⟩ = false := hV.frozen _
      have hBlt := hV.lt
      have HV : Hid (V (Z c / 4096).toNat = .slice ao n cp) := hVk
      rw [hVk] at hown1
      clear hVk
      have hb1 := and12 (Z c) hz0 (by omega)
      have hb2 := or52 id (Z c) hid hid2
      go_wp2_with (at_builtin; refine wpList_append_own_at _ rfl (.tmp 24) (.tmp 32) 31 rfl (B + 1) 26 i0 (.int .u64 0) 1 8 Try.underlying31 HI.out.1 HI.out.2.1 HI.out.2.2.1 HI.out.2.2.2 rfl (by decide) _ n _ rfl (hown1.alloc _) ⟨wr.heap.size, 0, none⟩ 1 1 [.int .u64 (ent id (Z c))] rfl rfl ?c1 ?c2 ?c3 ?c4 ?c5 ?_)
      case c2 => rfl
      case c3 => unfold maxLen; omega
      case c4 => omega
      case c5 => omega
      · intro v' w1 hown' hgrow _ hat
        obtain ⟨g3, g4⟩ := bk_form (F := fun k => F k ++ bk id Z k c) hV (hown _ hk) hk HV.out hgrow
        have hown2 : w1.ownsRow (B + 1) 26 1 v' (n + 1) ((F (Z c / 4096).toNat ++ bk id Z (Z c / 4096).toNat c).map (Value.int .u64) ++ [.int .u64 (ent id (Z c))]) := by simpa using hown'
        obtain ⟨hP, hP2⟩ := bk_put (F := fun k => F k ++ bk id Z k c) hV hown hdis hk HV.out HN.out hown2 hgrow (by simpa using hat)
        obtain ⟨gv, capv, hv', _, _⟩ := hown'.form (by omega)
        have HP : Hid (Bk (w1.setCell ⟨B, (Z c / 4096).toNat, none⟩ v') B (fun j => if j = (Z c / 4096).toNat then (F j ++ bk id Z j c) ++ [ent id (Z c)] else F j ++ bk id Z j c)) := hP
        have HP2 := hbel.trans hP2
        rw [hv'] at HP HP2 ⊢
        clear hP hP2 hown2 hown' hgrow hat hv' hown1 hown hdis hV g1 g2 hb1 hb2 g0
        go_wp2
        go_roundg (L - (c + 1))
        case measure => omega
        case rel =>
          refine ⟨c + 1, by omega, rfl, by go_num, HP.out.congr (fun k _ => ?_), HP2⟩
          by_cases e : k = (Z c / 4096).toNat
          · subst e
            rw [if_pos rfl, bk, if_pos rfl, List.append_assoc]
          · rw [if_neg e, bk, if_neg (fun h => e h.symm), List.append_nil]
    · have hcz : ¬ (c : Int) < (L : Int) := by omega
      obtain rfl : c = L := by omega
      go_wp2
      go_end0
      exact ⟨rfl, hB, hbel⟩

set_option maxHeartbeats 400000 in
theorem add9_any (B : Nat) (id : Int) (a : Option Addr) (L C RB RO : Nat) (Z : Nat → Int) (F : Nat → List Int) (w : World)
    (hid : 0 ≤ id) (hid2 : id < 4503599627370496) (hL : L ≤ 1048576) (hF : ∀ k, k < 4096 → (F k).length + L ≤ 1073741824)
    (hrow : ∀ c, c < L → a = some ⟨RB, RO, none⟩ ∧ w.cell? ⟨RB, RO + c, none⟩ = some (.int .u32 (Z c))) (hRB : 0 < L → RB < B) (hZ : ∀ c, c < L → 0 ≤ Z c ∧ Z c < 16777216) (hb : Bk w B F) :
    Calls Try.prog 9 #[.pointer (some ⟨B, 0, none⟩), .int .i64 id, .slice a L C] w fun e w' => AddPost B w (fun k => F k ++ bk id Z k L) e w' := by
  go_enter Try.func9, Try.ntmps9
  go_wp2_with (go_at_call 15; refine (add_any B id a L C RB RO Z F w hid hid2 hL hF hrow hRB hZ hb).mono ?_; rintro e w' ⟨rfl, hq1, hq2⟩)
  go_end0
  exact ⟨rfl, hq1, hq2⟩

def BucketPost (B k : Nat) (F : Nat → List Int) (w : World) (e : Ending) (w' : World) : Prop := w' = w ∧ ∃ ao cp, e = .returned (.slice ao (F k).length cp) ∧ w.ownsRow (B + 1) 26 1 (.slice ao (F k).length cp) (F k).length ((F k).map (Value.int .u64))

set_option maxHeartbeats 400000 in
theorem bucket_any (B : Nat) (k : Int) (F : Nat → List Int) (w : World) (hk0 : 0 ≤ k) (hk : k < 4096) (hb : Bk w B F) :
    Calls Try.prog 10 #[.pointer (some ⟨B, 0, none⟩), .int .i64 k] w fun e w' => BucketPost B k.toNat F w e w' := by
  obtain ⟨V, hV, hown, _⟩ := hb
  have hown1 := hown k.toNat (by omega)
  obtain ⟨ao, cp, hVk⟩ := owns_form hown1
  have g1 : w.cell? ⟨B, k.toNat, none⟩ = some (.slice ao (F k.toNat).length cp) := by rw [hV.cell (by omega), hVk]
  rw [hVk] at hown1
  clear hVk
  go_enter Try.func10, Try.ntmps10
  go_wp2
  go_ret
  exact ⟨rfl, ao, cp, rfl, hown1⟩

theorem Bk.below {w w' : World} {B : Nat} {F : Nat → List Int} (h : Bk w B F) (hb : Below w.heap.size w w') : Bk w' B F := by
  obtain ⟨V, h1, h2, h3⟩ := h
  refine ⟨V, h1.of_block (hb.block _ h1.lt), fun k hk => ?_, h3⟩
  refine ⟨(h2 k hk).1, ?_⟩
  rcases (h2 k hk).2 with hn | ⟨g, cap, cur, hv, hbg, hgg, rest⟩
  · exact .inl hn
  · exact .inr ⟨g, cap, cur, hv, hbg, by rw [hb.block g (Array.getElem?_eq_some_iff.1 hgg).1]; exact hgg, rest⟩

/-- The clone, told as the lists were told. -/
theorem clone_view {G : Nat} {L : Nat → Nat} {Z : Nat → Nat → Int} {w w' : World} {e : Ending} (h : ClonePost G L Z w e w') :
    ∃ ga gb go Gc A C RB RO, e = .returned (.slice ga G Gc) ∧ IsLists w' ga gb go G A L C RB RO Z ∧ Below w.heap.size w w' := by
  rcases h with ⟨rfl, rfl, rfl⟩ | ⟨hi, rfl, h⟩
  · exact ⟨none, 0, 0, 0, fun _ => none, fun _ => 0, fun _ => 0, fun _ => 0, rfl, ⟨fun h => absurd h (Nat.lt_irrefl _), fun r hr => absurd hr (Nat.not_lt_zero _), fun r hr => absurd hr (Nat.not_lt_zero _)⟩, Below.refl _ _⟩
  · obtain ⟨F, h1, h2, h3⟩ := h.top
    refine ⟨_, w.heap.size, 0, _, fun r => match F r with | .slice a _ _ => a | _ => none, fun r => match F r with | .slice _ _ c => c | _ => 0, fun r => match F r with | .slice (some a) _ _ => a.block | _ => 0, fun _ => 0, rfl, ⟨fun _ => rfl, fun r hr => ?_, fun r hr c hc => ?_⟩, h.since⟩
    · have hc := h1.cell hr
      simp only [Nat.zero_add]
      rcases h3 r hr with ⟨hv, hl⟩ | ⟨g, _, _, hv, _⟩
      · rw [hc, hv, hl]
      · rw [hc, hv]
    · rcases h3 r hr with ⟨hv, hl⟩ | ⟨g, _, _, hv, hrow⟩
      · omega
      · simp only [hv, Nat.zero_add]
        exact ⟨trivial, hrow.cell hc⟩

end Go.Proofs.Qxb6606006a.Post
