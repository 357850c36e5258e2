import Derived.Test.Qxb6605784aLvBytes
import Derived.Lib.LazyBuf
import Derived.Stop.BytesEq
import Derived.Deep.RegionHeld3
namespace Go.Proofs.Qxb6605784a.Leave
open Go.RowKit
open Extern.Stop (cell)
set_option linter.unusedVariables false

/-- One participant's 33 cells: 32 bytes and a turn. -/
def partCells (K : List UInt8) (t : Int) : List Value := K.map cell ++ [.int .u64 t]

/-- A slice of n participants. -/
structure IsParts (w : World) (a : Option Addr) (b o n : Nat) (K : Nat → List UInt8) (T : Nat → Int) : Prop where
  top : 0 < n → a = some ⟨b, o, none⟩
  len : ∀ i, i < n → (K i).length = 32
  cell : ∀ i, i < n → w.rangeAt b (o + i * 33) (partCells (K i) (T i))

theorem rangeAt_below {w w' : World} {b o : Nat} {cs : List Value} (h : w.rangeAt b o cs) (hb : Below w.heap.size w w') : w'.rangeAt b o cs := fun j v hv => by
  rw [hb.cell (p := ⟨b, o + j, none⟩) (World.block_lt_of_cell? _ _ (h j v hv))]; exact h j v hv

theorem IsParts.below {w w' : World} {a : Option Addr} {b o n : Nat} {K : Nat → List UInt8} {T : Nat → Int} (h : IsParts w a b o n K T) (hb : Below w.heap.size w w') : IsParts w' a b o n K T :=
  ⟨h.top, h.len, fun i hi => rangeAt_below (h.cell i hi) hb⟩

theorem run_make_wide {P : Program} (t e : TypeId) (z : Value) (size bytes : Nat) (ht : P.underlying t = some (.slice e)) (hinfo : (P.info? e).map (fun i => (i.zero, i.size, i.bytes)) = some (some z, size, bytes))
    (kl kc : IntKind) (n : Nat) (hbytes : bytes * n ≤ 281474976710656) (h63 : n ≤ 9223372036854775807) (w : World) :
    (Instr.makeSlice t (.int kl (n : Int)) (.int kc (n : Int))).run P w = .ok (.slice (some ⟨w.heap.size, 0, none⟩) n n) (w.alloc (.cells (madeCells z.cells (n * size)) e)) := by
  obtain ⟨i, hi, hzz⟩ := Option.map_eq_some_iff.1 hinfo
  simp only [Prod.mk.injEq] at hzz
  obtain ⟨hz, hs, hb⟩ := hzz
  have hb' : (i.bytes : Int) * (n : Int) ≤ 281474976710656 := by
    have h : ((i.bytes * n : Nat) : Int) ≤ 281474976710656 := by rw [hb]; omega
    rwa [Int.natCast_mul] at h
  have hr := run_make (P := P) w t e i z ht hi hz kl kc n n (by omega) (Int.le_refl _) hb' (by omega)
  simp only [Int.toNat_natCast, hs] at hr
  exact hr

theorem make_wide {P : Program} (t e : TypeId) (z : Value) (size bytes : Nat) (ht : P.underlying t = some (.slice e)) (hinfo : (P.info? e).map (fun i => (i.zero, i.size, i.bytes)) = some (some z, size, bytes))
    (kl kc : IntKind) (n : Nat) (hbytes : bytes * n ≤ 281474976710656) (h63 : n ≤ 9223372036854775807) :
    ∃ Z : Array Value, Z.size = n * size ∧ ∀ w, (Instr.makeSlice t (.int kl (n : Int)) (.int kc (n : Int))).run P w = .ok (.slice (some ⟨w.heap.size, 0, none⟩) n n) (w.alloc (.cells Z e)) :=
  ⟨_, size_madeCells _ _, run_make_wide t e z size bytes ht hinfo kl kc n hbytes h63⟩

theorem rowIs_made_wide (w : World) (Z : Array Value) (n : Nat) (t : TypeId) (hZ : Z.size = n) : ∃ V, (w.alloc (.cells Z t)).rowIs w.heap.size t n V := by
  refine ⟨fun i => (Z[i]?).getD default, ?_⟩
  have h := World.rowIs_alloc w Z t (fun i => (Z[i]?).getD default) (fun i hi => by simp [hi])
  rw [hZ] at h
  exact h

theorem there_of_row {w : World} {b : Nat} {t : TypeId} {n : Nat} {f : Nat → Value} (h : w.rowIs b t n f) {o k : Nat} (hk : o + k ≤ n) : w.there b o k := fun j hj =>
  ⟨by rw [h.cell (i := o + j) (by omega)]; rfl, h.frozen _⟩

theorem size71 : (Try.prog.info? 71).map (·.size) = some 33 := by kernel_rfl
def zPart : Value := .agg (List.replicate 32 (Value.int .u8 0) ++ [Value.int .u64 0]).toArray
theorem info71 : ∃ z, (Try.prog.info? 71).map (fun i => (i.zero, i.size, i.bytes)) = some (some z, 33, 40) := ⟨zPart, by kernel_rfl⟩
theorem info72 : ∃ z, (Try.prog.info? 72).map (fun i => (i.zero, i.size, i.bytes)) = some (some z, 33, 40) := ⟨zPart, by kernel_rfl⟩

def PartsPost (a0 : Option Addr) (n : Nat) (K : Nat → List UInt8) (T : Nat → Int) (w : World) (e : Ending) (w' : World) : Prop := ∃ a b o c, e = .returned (.slice a n c) ∧ IsParts w' a b o n K T ∧ a.isNone = a0.isNone ∧ w.heap.size ≤ b ∧ Below w.heap.size w w'

theorem partCells_one (K : List UInt8) (t : Int) : (partCells K t).toArray.all (·.oneCell') = true :=
  all_oneCell_toArray (fun v hv => by
    simp only [partCells, List.mem_append, List.mem_map, List.mem_singleton] at hv
    rcases hv with ⟨x, _, rfl⟩ | rfl <;> rfl)
theorem partCells_len {K : List UInt8} {t : Int} (h : K.length = 32) : (partCells K t).length = 33 := by simp [partCells, h]

set_option maxHeartbeats 2000000 in
set_option maxRecDepth 100000 in
theorem copy_any (a : Option Addr) (b o n c : Nat) (K : Nat → List UInt8) (T : Nat → Int) (w : World) (h : IsParts w a b o n K T) (hn : n ≤ 1048576) :
    Calls Try.prog 11 #[.slice a n c] w fun e w' => PartsPost a n K T w e w' := by
  have q22 : ∀ (w : World) (a : Option Addr) (n c n' c' : Nat), (binOp .eql 30 (.slice a n c) (.slice none n' c')).run Try.prog w = .ok (.bool a.isNone) w := fun w a n c n' c' => Lib.run_eql_slice_nil w _ _ a n c n' c' Try.underlying30
  cases a with
  | none =>
    have hn0 : n = 0 := by
      rcases Nat.eq_zero_or_pos n with h0 | h0
      · exact h0
      · exact absurd (h.top h0) (by simp)
    go_enter Try.func11, Try.ntmps11
    go_wp2
    go_ret
    subst hn0
    exact ⟨none, w.heap.size, 0, 0, rfl, ⟨fun h => absurd h (Nat.lt_irrefl _), fun r hr => absurd hr (Nat.not_lt_zero _), fun r hr => absurd hr (Nat.not_lt_zero _)⟩, rfl, Nat.le_refl _, Below.refl _ _⟩
  | some ga =>
  obtain ⟨z, hz⟩ := info71
  obtain ⟨Z, hZ, hmk⟩ := make_wide (P := Try.prog) 30 71 z 33 40 Try.underlying30 hz .i64 .i64 n (by omega) (by omega)
  go_enter Try.func11, Try.ntmps11
  go_wp2
  clear hmk q22 hz
  go_loopg [4] n (fun m i wr => ∃ k : Nat, k ≤ n ∧ m = n - k ∧ i = .int .i64 k ∧ (∃ V, wr.rowIs w.heap.size 71 (n * 33) V) ∧ (∀ i, i < k → wr.rangeAt w.heap.size (i * 33) (partCells (K i) (T i))) ∧ Below w.heap.size w wr)
  case atStart => exact ⟨0, Nat.zero_le _, rfl, rfl, rowIs_made_wide _ _ _ _ hZ, fun i hi => absurd hi (Nat.not_lt_zero _), (Below.refl _ _).alloc (Nat.le_refl _) _⟩
  case round =>
    obtain ⟨k, hk, rfl, rfl, ⟨V, hrow⟩, hall, hbel⟩ := hrel
    by_cases hlt : k < n
    · have hkz : (k : Int) < (n : Int) := by omega
      obtain rfl := Option.some.inj (h.top (by omega))
      have g0 : wr.rangeAt b (o + k * 33) (partCells (K k) (T k)) := rangeAt_below (h.cell k hlt) hbel
      have hl33 : (partCells (K k) (T k)).length = 33 := partCells_len (h.len k hlt)
      have k1 : k * 33 + 33 ≤ n * 33 := by omega
      have th := there_of_row hrow (o := k * 33) (k := 33) k1
      have sz : (Try.prog.info? 71).map (·.size) = some (partCells (K k) (T k)).length := by rw [hl33]; exact size71
      have sz' : (Try.prog.info? 71).map (·.size) = some (partCells (K k) (T k)).toArray.size := by simpa using sz
      have th' : wr.there w.heap.size (k * 33) (partCells (K k) (T k)).toArray.size := by simpa [hl33] using th
      go_wp2_with (first
        | (refine wpList_load_mid rfl 71 (.tmp 20) rfl b (o + k * 33) rfl _ _ g0 Try.underlying71 rfl sz ?_)
        | (refine wpList_store_mid rfl 71 (.tmp 22) (.tmp 21) rfl w.heap.size (k * 33) _ rfl rfl th' sz' (partCells_one _ _) ?_))
      go_roundg (n - (k + 1))
      case measure => omega
      case rel =>
        refine ⟨k + 1, by omega, rfl, by go_num, ⟨_, Go.rowIs_setCells _ _ _ _ hrow⟩, fun i hi => ?_, Go.below_setCells (Nat.le_refl _) _ _ _ hbel⟩
        by_cases e : i = k
        · subst e
          exact World.rangeAt_setCells_same _ _ _ _ (by simpa [hl33] using th)
        · have hik : i < k := by omega
          exact World.rangeAt_setCells_apart (hall i hik) _ _ _ (.inr (.inl (by rw [partCells_len (h.len i (by omega))]; omega)))
    · have hkz : ¬ (k : Int) < (n : Int) := by omega
      obtain rfl : k = n := by omega
      go_wp2
      go_ret
      exact ⟨_, w.heap.size, 0, _, rfl, ⟨fun _ => rfl, h.len, fun i hi => by rw [Nat.zero_add]; exact hall i hi⟩, rfl, Nat.le_refl _, hbel⟩


/-- The fold by which 'build' lays a part. -/
theorem fold_get (off : Nat) : ∀ (l : List Value) (k : Nat) (cs : Array Value), off + k + l.length ≤ cs.size → ((l.zipIdx k).foldl (fun cs p => cs.setIfInBounds (off + p.2) p.1) cs).size = cs.size ∧
    ∀ i, ((l.zipIdx k).foldl (fun cs p => cs.setIfInBounds (off + p.2) p.1) cs)[i]? = if off + k ≤ i ∧ i < off + k + l.length then l[i - (off + k)]? else cs[i]?
  | [], k, cs, h => ⟨rfl, fun i => by rw [if_neg (by simp)]; rfl⟩
  | v :: l, k, cs, h => by
    simp only [List.length_cons] at h
    obtain ⟨ih1, ih2⟩ := fold_get off l (k + 1) (cs.setIfInBounds (off + k) v) (by simp; omega)
    simp only [List.zipIdx_cons, List.foldl_cons]
    refine ⟨by rw [ih1]; simp, fun i => ?_⟩
    rw [ih2]
    by_cases h1 : i = off + k
    · subst h1
      rw [if_neg (by omega), if_pos (by simp), Nat.sub_self, Array.getElem?_setIfInBounds]
      simp
      omega
    · by_cases h2 : off + (k + 1) ≤ i ∧ i < off + (k + 1) + l.length
      · rw [if_pos h2, if_pos (by simp; omega), show i - (off + k) = (i - (off + (k + 1))) + 1 by omega, List.getElem?_cons_succ]
      · rw [if_neg h2, if_neg (by simp; omega), Array.getElem?_setIfInBounds, if_neg (fun e => h1 e.symm)]

/-- One part of a build, laid behind what is laid. -/
theorem fill_step (place : Nat → Option (Nat × Nat)) (i : Nat) (xs : List Value) (v : Value) (hv : v.cells = xs.toArray) (pre rest : List Value) (ps : List (Nat × Value))
    (hp : place i = some (pre.length, xs.length)) (hr : xs.length ≤ rest.length) :
    Instr.fill place (pre ++ rest).toArray ((i, v) :: ps) = Instr.fill place ((pre ++ xs) ++ rest.drop xs.length).toArray ps := by
  rw [Instr.fill, hp]
  simp only [hv, List.size_toArray, List.length_append]
  rw [if_neg (by simp; omega)]
  congr 1
  have hf := fold_get pre.length xs 0 (pre ++ rest).toArray (by simp; omega)
  have e : (Array.foldl (fun cs (x : Value × Nat) => match x with | (c, j) => cs.setIfInBounds (pre.length + j) c) (pre ++ rest).toArray xs.toArray.zipIdx) = (xs.zipIdx 0).foldl (fun cs p => cs.setIfInBounds (pre.length + p.2) p.1) (pre ++ rest).toArray := by
    rw [← Array.foldl_toList]
    simp
  refine Eq.trans e ?_
  apply Array.ext_getElem?
  intro j
  rw [hf.2 j]
  simp only [Nat.add_zero, List.getElem?_toArray]
  by_cases h1 : j < pre.length
  · rw [if_neg (by omega), List.append_assoc, List.getElem?_append_left h1, List.getElem?_append_left h1]
  · by_cases h2 : j < pre.length + xs.length
    · rw [if_pos (by omega), List.append_assoc, List.getElem?_append_right (by omega), List.getElem?_append_left (by omega)]
    · rw [if_neg (by omega), List.append_assoc, List.getElem?_append_right (by omega), List.getElem?_append_right (by omega), List.getElem?_append_right (by omega), List.getElem?_drop]
      congr 1
      omega

end Go.Proofs.Qxb6605784a.Leave
