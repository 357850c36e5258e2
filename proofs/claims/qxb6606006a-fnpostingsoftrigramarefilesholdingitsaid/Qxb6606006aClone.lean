import Derived.Test.Qxb6606006aBytes
import Derived.Lib.SliceRun
namespace Go.Proofs.Qxb6606006a.Post
open Go.RowKit

theorem info23 : (Try.prog.info? 23).map (fun i => (i.zero, i.size, i.bytes)) = some (some (.int .u32 0), 1, 4) := by kernel_rfl
theorem info25 : (Try.prog.info? 25).map (fun i => (i.zero, i.size, i.bytes)) = some (some (.slice none 0 0), 1, 24) := by kernel_rfl

/-- One cloned row: nil, or a block of its own. -/
def RowOk (wr : World) (lo hi : Nat) (Lj : Nat) (Zj : Nat → Int) (v : Value) : Prop :=
  (v = .slice none 0 0 ∧ Lj = 0) ∨ ∃ g, lo < g ∧ g < hi ∧ v = .slice (some ⟨g, 0, none⟩) Lj Lj ∧ wr.rowIs g 23 Lj (fun c => .int .u32 (Zj c))

theorem RowOk.of_block {w w' : World} {lo hi hi' Lj : Nat} {Zj : Nat → Int} {v : Value} (h : RowOk w lo hi Lj Zj v) (hh : hi ≤ hi') (e : ∀ g, lo < g → g < hi → w'.heap[g]? = w.heap[g]?) : RowOk w' lo hi' Lj Zj v := by
  rcases h with h | ⟨g, h1, h2, h3, h4⟩
  · exact .inl h
  · exact .inr ⟨g, h1, by omega, h3, h4.of_block (e g h1 h2)⟩

/-- k rows are cloned; 'hi': an upper bound on the blocks that hold them. -/
structure CO (w wr : World) (G : Nat) (L : Nat → Nat) (Z : Nat → Nat → Int) (k hi : Nat) : Prop where
  since : Below w.heap.size w wr
  lt : w.heap.size < hi
  le : hi ≤ wr.heap.size
  top : ∃ F : Nat → Value, wr.rowIs w.heap.size 25 G F ∧ (∀ j, k ≤ j → F j = .slice none 0 0) ∧ ∀ j, j < k → RowOk wr w.heap.size hi (L j) (Z j) (F j)

theorem co_start (w : World) (G : Nat) (L : Nat → Nat) (Z : Nat → Nat → Int) : CO w (w.alloc (.cells (madeCells #[.slice none 0 0] G) 25)) G L Z 0 (w.heap.size + 1) :=
  ⟨(Below.refl _ _).alloc (Nat.le_refl _) _, by omega, by simp, ⟨fun _ => .slice none 0 0, World.rowIs_made w _ G 25, fun _ _ => rfl, fun j hj => absurd hj (Nat.not_lt_zero _)⟩⟩

theorem co_nil {w wr : World} {G : Nat} {L : Nat → Nat} {Z : Nat → Nat → Int} {k hi : Nat} (h : CO w wr G L Z k hi) (hL : L k = 0) : CO w wr G L Z (k + 1) hi := by
  obtain ⟨F, h1, h2, h3⟩ := h.top
  refine ⟨h.since, h.lt, h.le, F, h1, fun j hj => h2 j (by omega), fun j hj => ?_⟩
  by_cases e : j = k
  · subst e
    exact .inl ⟨h2 j (Nat.le_refl _), hL⟩
  · exact h3 j (by omega)

/-- c cells of row k are copied into block g. -/
structure CI (w wi : World) (G : Nat) (L : Nat → Nat) (Z : Nat → Nat → Int) (k g c : Nat) : Prop where
  out : CO w wi G L Z k g
  lt : g < wi.heap.size
  cur : wi.rowIs g 23 (L k) (fun i => if i < c then .int .u32 (Z k i) else .int .u32 0)

theorem ci_start {w wr : World} {G : Nat} {L : Nat → Nat} {Z : Nat → Nat → Int} {k hi : Nat} (h : CO w wr G L Z k hi) :
    CI w (wr.alloc (.cells (madeCells #[.int .u32 0] (L k)) 23)) G L Z k wr.heap.size 0 := by
  have hs := h.since.size
  have h4 := h.le
  have h5 := h.lt
  obtain ⟨F, h1, h2, h3⟩ := h.top
  refine ⟨⟨h.since.alloc hs _, by omega, by simp, F, h1.alloc _, h2, fun j hj => (h3 j hj).of_block h4 (fun g _ hg => Below.heap_alloc _ _ _ (by omega))⟩, by simp, (World.rowIs_made wr (.int .u32 0) (L k) 23).congr (fun i _ => by simp)⟩

theorem ci_step {w wi : World} {G : Nat} {L : Nat → Nat} {Z : Nat → Nat → Int} {k g c : Nat} (h : CI w wi G L Z k g c) : CI w (wi.setCell ⟨g, c, none⟩ (.int .u32 (Z k c))) G L Z k g (c + 1) := by
  have h5 := h.out.lt
  obtain ⟨F, h1, h2, h3⟩ := h.out.top
  refine ⟨⟨h.out.since.setCell (by show w.heap.size ≤ g; omega) _, h5, by simpa [World.setCell] using h.out.le, F, h1.setOther (by show w.heap.size ≠ g; omega) _, h2, fun j hj => (h3 j hj).of_block (Nat.le_refl _) (fun x _ hx => Below.heap_setCell _ _ _ _ (by show x ≠ g; omega))⟩, by simpa [World.setCell] using h.lt, (h.cur.set c _).congr (fun i _ => ?_)⟩
  by_cases e : i = c
  · subst e; simp
  · rw [if_neg e]
    by_cases hlt : i < c
    · rw [if_pos hlt, if_pos (by omega)]
    · rw [if_neg hlt, if_neg (by omega)]

theorem ci_done {w wi : World} {G : Nat} {L : Nat → Nat} {Z : Nat → Nat → Int} {k g : Nat} (h : CI w wi G L Z k g (L k)) : CO w (wi.setCell ⟨w.heap.size, k, none⟩ (.slice (some ⟨g, 0, none⟩) (L k) (L k))) G L Z (k + 1) (g + 1) := by
  have h5 := h.out.lt
  have h6 := h.lt
  obtain ⟨F, h1, h2, h3⟩ := h.out.top
  refine ⟨h.out.since.setCell (Nat.le_refl _) _, by omega, by simp [World.setCell]; omega, _, h1.set k _, fun j hj => ?_, fun j hj => ?_⟩
  · rw [if_neg (by omega)]; exact h2 j (by omega)
  · by_cases e : j = k
    · subst e
      refine .inr ⟨g, by omega, by omega, by simp, (h.cur.setOther (by show g ≠ w.heap.size; omega) _).congr (fun i hi => by rw [if_pos hi])⟩
    · show RowOk _ _ _ _ _ (if j = k then _ else F j)
      rw [if_neg e]
      exact (h3 j (by omega)).of_block (by omega) (fun x hx _ => Below.heap_setCell _ _ _ _ (by show x ≠ w.heap.size; omega))

/-- What 'b1CloneLists' comes to. -/
def ClonePost (G : Nat) (L : Nat → Nat) (Z : Nat → Nat → Int) (w : World) (e : Ending) (w' : World) : Prop :=
  (G = 0 ∧ e = .returned (.slice none 0 0) ∧ w' = w) ∨ ∃ hi, e = .returned (.slice (some ⟨w.heap.size, 0, none⟩) G G) ∧ CO w w' G L Z G hi

set_option maxHeartbeats 400000 in
theorem clone_any (ga : Option Addr) (gb go G Gc : Nat) (A : Nat → Option Addr) (L C RB RO : Nat → Nat) (Z : Nat → Nat → Int) (w : World)
    (h : IsLists w ga gb go G A L C RB RO Z) (hG : G ≤ 1048576) (hL : ∀ r, r < G → L r ≤ 1048576) :
    Calls Try.prog 7 #[.slice ga G Gc] w fun e w' => ClonePost G L Z w e w' := by
  have q22 : ∀ (w : World) (a : Option Addr) (n c n' c' : Nat), (binOp .eql 22 (.slice a n c) (.slice none n' c')).run Try.prog w = .ok (.bool a.isNone) w := fun w a n c n' c' => Lib.run_eql_slice_nil w _ _ a n c n' c' Try.underlying22
  cases ga with
  | none =>
    have hG0 : G = 0 := by
      rcases Nat.eq_zero_or_pos G with h0 | h0
      · exact h0
      · exact absurd (h.top h0) (by simp)
    go_enter Try.func7, Try.ntmps7
    go_wp2
    go_ret
    exact .inl ⟨hG0, rfl, rfl⟩
  | some ga =>
  have q25 : ∀ (w : World) (a : Option Addr) (n c n' c' : Nat), (binOp .neq 25 (.slice a n c) (.slice none n' c')).run Try.prog w = .ok (.bool (!a.isNone)) w := fun w a n c n' c' => run_neq_slice_nil_any w _ _ a n c n' c' Try.underlying25
  have hmk22 := run_make_row' (P := Try.prog) 22 25 (.slice none 0 0) 24 Try.underlying22 info25 rfl .i64 .i64 G (by omega) (by omega)
  go_enter Try.func7, Try.ntmps7
  go_wp2
  clear hmk22 q22
  go_loopg [4] G (fun g i wr => ∃ k hi : Nat, k ≤ G ∧ g = G - k ∧ i = .int .i64 k ∧ CO w wr G L Z k hi)
  case atStart => exact ⟨0, _, Nat.zero_le _, rfl, rfl, co_start w G L Z⟩
  case round =>
    obtain ⟨k, hi, hk, rfl, rfl, hO⟩ := hrel
    by_cases hkG : k < G
    · obtain rfl := Option.some.inj (h.top (by omega))
      have hkz : (k : Int) < (G : Int) := by omega
      have hgb : gb < w.heap.size := World.block_lt_of_cell? _ _ (h.row k hkG)
      have g0 : wr.cell? ⟨gb, go + k, none⟩ = some (.slice (A k) (L k) (C k)) := by rw [hO.since.cell (p := ⟨gb, go + k, none⟩) hgb]; exact h.row k hkG
      have hLk := hL k hkG
      cases hAk : A k with
      | none =>
        have hL0 : L k = 0 := by
          rcases Nat.eq_zero_or_pos (L k) with h0 | h0
          · exact h0
          · exact absurd (h.num k hkG 0 h0).1 (by simp [hAk])
        rw [hAk] at g0
        clear hAk
        have HL : Hid (L k = 0) := hL0
        clear hL0
        go_wp2
        go_roundg (G - (k + 1))
        case measure => omega
        case rel => exact ⟨k + 1, hi, by omega, rfl, by go_num, co_nil hO HL.out⟩
      | some ak =>
        rw [hAk] at g0
        have hmk25 := run_make_row' (P := Try.prog) 25 23 (.int .u32 0) 4 Try.underlying25 info23 rfl .i64 .i64 (L k) (by omega) (by omega)
        have HA : Hid (A k = some ak) := hAk
        clear hAk
        go_wp2
        have hI0 := ci_start hO
        clear hmk25 g0 hO
        obtain ⟨g, hg⟩ : ∃ g, g = wr.heap.size := ⟨_, rfl⟩
        rw [← hg] at hI0 ⊢
        clear hg
        go_loopg [6] (L k) (fun n i wi => ∃ c : Nat, c ≤ L k ∧ n = L k - c ∧ i = .int .i64 c ∧ CI w wi G L Z k g c)
        case atStart => exact ⟨0, Nat.zero_le _, rfl, rfl, hI0⟩
        case round =>
          obtain ⟨c, hc, rfl, rfl, hI⟩ := hrel
          clear hI0
          have g0 : wr.cell? ⟨gb, go + k, none⟩ = some (.slice (some ak) (L k) (C k)) := by rw [hI.out.since.cell (p := ⟨gb, go + k, none⟩) hgb, h.row k hkG, HA.out]
          have hgb' : gb ≠ g := by have := hI.out.lt; omega
          by_cases hcL : c < L k
          · have hcz : (c : Int) < (L k : Int) := by omega
            obtain rfl : ak = ⟨RB k, RO k, none⟩ := Option.some.inj (HA.out.symm.trans (h.num k hkG c hcL).1)
            have g1 : wr.cell? ⟨RB k, RO k + c, none⟩ = some (.int .u32 (Z k c)) := by
              rw [hI.out.since.cell (p := ⟨RB k, RO k + c, none⟩) (World.block_lt_of_cell? _ _ (h.num k hkG c hcL).2)]
              exact (h.num k hkG c hcL).2
            have g2 : wr.cell? ⟨g, c, none⟩ = some (.int .u32 0) := by simpa using hI.cur.cell hcL
            have g3 : wr.frozen? ⟨g, c, none⟩ = false := hI.cur.frozen c
            go_wp2
            go_roundg (L k - (c + 1))
            case measure => omega
            case rel => exact ⟨c + 1, by omega, rfl, by go_num, ci_step hI⟩
          · have hcz : ¬ (c : Int) < (L k : Int) := by omega
            obtain rfl : c = L k := by omega
            obtain ⟨F, h1, h2, h3⟩ := hI.out.top
            have g4 : wr.cell? ⟨w.heap.size, k, none⟩ = some (.slice none 0 0) := by rw [h1.cell hkG, h2 k (Nat.le_refl _)]
            have g5 : wr.frozen? ⟨w.heap.size, k, none⟩ = false := h1.frozen k
            clear h1 h2 h3
            go_wp2
            go_roundg (G - (k + 1))
            case measure => omega
            case rel => exact ⟨k + 1, g + 1, by omega, rfl, by go_num, ci_done hI⟩
    · have hkz : ¬ (k : Int) < (G : Int) := by omega
      obtain rfl : k = G := by omega
      go_wp2
      go_ret
      exact .inr ⟨hi, rfl, hO⟩

end Go.Proofs.Qxb6606006a.Post
