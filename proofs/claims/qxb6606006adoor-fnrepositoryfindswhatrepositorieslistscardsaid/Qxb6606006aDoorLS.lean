import Derived.Test.Qxb6606006aDoorSmall
import Derived.Lib.SlBytesConst
import Derived.Deep.RegionHeld3
import Derived.Deep.AppendLies
import Derived.Deep.DrawnRows
namespace Go.Proofs.Qxb6606006aDoor.Ix
open Go.RowKit
set_option linter.unusedVariables false
attribute [local go_sem ↓] Go.wp_at_zero Go.wp_at_succ

/-- What 'load' knows of memory: the index at block I, the data at g, its own two variables at D and O. -/
structure LS (w wx : World) (I g D O N : Nat) (f : Nat → Int) (V : Nat → Value) (Of : Nat → Int) : Prop where
  gr : w.grownBy wx (some I)
  ix : wx.rowIs I 56 12 V
  dv : wx.rowIs D 23 1 (fun _ => .slice (some ⟨g, 0, none⟩) N N)
  ov : wx.rowIs O 65 8 (fun j => .int .i64 (Of j))
  dat : wx.rowIs g 5 N (fun p => .int .u8 (f p))
  hI : I < w.heap.size
  hg : g < w.heap.size
  hD : w.heap.size ≤ D
  hO : D < O
  ne : I ≠ g

theorem grownBy_trans {a b c : World} {row : Option Nat} (h : a.grownBy b row) (k : b.grownBy c row) : a.grownBy c row :=
  ⟨k.os.trans h.os, k.tape.trans h.tape, k.output.trans h.output, Nat.le_trans h.size k.size, fun i hi hn => (k.block i (Nat.lt_of_lt_of_le hi h.size) hn).trans (h.block i hi hn)⟩
theorem grownBy_below {a b : World} (h : Below a.heap.size a b) (row : Option Nat) : a.grownBy b row := ⟨h.os, h.tape, h.output, h.size, fun k hk _ => h.block k hk⟩
theorem grownBy_set (a : World) (p : Addr) (v : Value) (B : Nat) (h : B ≤ p.block) : Below B a (a.setCell p v) := (Below.refl B a).setCell h v

section
variable {w wx wy : World} {I g D O N : Nat} {f : Nat → Int} {V : Nat → Value} {Of : Nat → Int}
theorem LS.lts (h : LS w wx I g D O N f V Of) : I < wx.heap.size ∧ g < wx.heap.size ∧ D < wx.heap.size ∧ O < wx.heap.size := ⟨h.ix.lt, h.dat.lt, h.dv.lt, h.ov.lt⟩
/-- Of what was there nothing has turned. -/
theorem LS.below (h : LS w wx I g D O N f V Of) (hb : Below wx.heap.size wx wy) : LS w wy I g D O N f V Of :=
  ⟨grownBy_trans h.gr (grownBy_below hb _), h.ix.of_block (hb.block _ h.ix.lt), h.dv.of_block (hb.block _ h.dv.lt), h.ov.of_block (hb.block _ h.ov.lt), h.dat.of_block (hb.block _ h.dat.lt), h.hI, h.hg, h.hD, h.hO, h.ne⟩
/-- A store into 'offsets'. -/
theorem LS.setO (h : LS w wx I g D O N f V Of) (k : Nat) (v : Int) : LS w (wx.setCell ⟨O, k, none⟩ (.int .i64 v)) I g D O N f V (fun j => if j = k then v else Of j) := by
  have h1 := h.hI; have h2 := h.hg; have h3 := h.hD; have h4 := h.hO
  refine ⟨⟨h.gr.os, h.gr.tape, h.gr.output, by simpa [World.setCell] using h.gr.size, fun i hi hn => ?_⟩, h.ix.setOther (by show I ≠ O; omega) _, h.dv.setOther (by show D ≠ O; omega) _, (h.ov.set k _).congr (fun j _ => ?_), h.dat.setOther (by show g ≠ O; omega) _, h.hI, h.hg, h.hD, h.hO, h.ne⟩
  · rw [Below.heap_setCell _ _ _ _ (by show i ≠ O; omega)]; exact h.gr.block i hi hn
  · by_cases e : j = k
    · rw [if_pos e, if_pos e]
    · rw [if_neg e, if_neg e]
/-- A store into the index. -/
theorem LS.setI (h : LS w wx I g D O N f V Of) (k : Nat) (v : Value) : LS w (wx.setCell ⟨I, k, none⟩ v) I g D O N f (fun j => if j = k then v else V j) Of := by
  have h1 := h.hI; have h2 := h.hg; have h3 := h.hD; have h4 := h.hO; have h5 := h.ne
  refine ⟨⟨h.gr.os, h.gr.tape, h.gr.output, by simpa [World.setCell] using h.gr.size, fun i hi hn => ?_⟩, h.ix.set k _, h.dv.setOther (by show D ≠ I; omega) _, h.ov.setOther (by show O ≠ I; omega) _, h.dat.setOther (by show g ≠ I; omega) _, h.hI, h.hg, h.hD, h.hO, h.ne⟩
  rw [Below.heap_setCell _ _ _ _ (by show i ≠ I; exact fun e => hn (by rw [e]))]; exact h.gr.block i hi hn
end

theorem ls_start {w : World} {I g N : Nat} {f : Nat → Int} {V : Nat → Value} (hix : w.rowIs I 56 12 V) (hdat : w.rowIs g 5 N (fun p => .int .u8 (f p))) (hne : I ≠ g) (B : Array Value) (fr : Nat × Nat) :
    LS w (((w.alloc (.cells #[.slice (some ⟨g, 0, none⟩) N N] 23)).alloc (.cells B 5 fr)).alloc (.cells #[.int .i64 0, .int .i64 0, .int .i64 0, .int .i64 0, .int .i64 0, .int .i64 0, .int .i64 0, .int .i64 0] 65)) I g w.heap.size (w.heap.size + 1 + 1) N f V (fun _ => 0) := by
  have hb : Below w.heap.size w (((w.alloc (.cells #[.slice (some ⟨g, 0, none⟩) N N] 23)).alloc (.cells B 5 fr)).alloc (.cells #[.int .i64 0, .int .i64 0, .int .i64 0, .int .i64 0, .int .i64 0, .int .i64 0, .int .i64 0, .int .i64 0] 65)) :=
    (((Below.refl _ _).alloc (Nat.le_refl _) _).alloc (by simp) _).alloc (by simp; omega) _
  refine ⟨grownBy_below hb _, hix.of_block (hb.block _ hix.lt), ?_, ?_, hdat.of_block (hb.block _ hdat.lt), hix.lt, hdat.lt, Nat.le_refl _, by omega, hne⟩
  · have h := World.rowIs_alloc w #[.slice (some ⟨g, 0, none⟩) N N] 23 (fun _ => .slice (some ⟨g, 0, none⟩) N N) (fun i hi => by
      obtain rfl : i = 0 := by simpa using hi
      rfl)
    exact (h.alloc _).alloc _
  · have h := World.rowIs_alloc ((w.alloc (.cells #[.slice (some ⟨g, 0, none⟩) N N] 23)).alloc (.cells B 5 fr)) #[.int .i64 0, .int .i64 0, .int .i64 0, .int .i64 0, .int .i64 0, .int .i64 0, .int .i64 0, .int .i64 0] 65 (fun _ => .int .i64 0) (fun i hi => by
      rcases (show i = 0 ∨ i = 1 ∨ i = 2 ∨ i = 3 ∨ i = 4 ∨ i = 5 ∨ i = 6 ∨ i = 7 by simp at hi; omega) with rfl | rfl | rfl | rfl | rfl | rfl | rfl | rfl <;> rfl)
    have e : ((w.alloc (.cells #[.slice (some ⟨g, 0, none⟩) N N] 23)).alloc (.cells B 5 fr)).heap.size = w.heap.size + 1 + 1 := by simp
    rw [e] at h
    exact h

/-- The repositories' cells. -/
def repCells (I : Nat) (S0 S1 S2 : Nat → ByteArray) (K : Nat → Int) : Nat → List Value
  | 0 => []
  | k + 1 => repCells I S0 S1 S2 K k ++ [.string (S0 k), .string (S1 k), .string (S2 k), .pointer (some ⟨I, 0, none⟩), .int .i64 (sumK K k : Nat), .int .i64 ((sumK K k : Nat) + K k)]

/-- A callee that leaves the world alone, met in a world of the class. -/
theorem Calls.regrown_same {P : Program} {f : FuncId} {args : Array Value} {w : World} {d : Nat} {os : Array Obj} {v : Value}
    (h : Calls P f args (Sort.grow (redrawn w d) os) fun e w' => e = .returned v ∧ w' = Sort.grow (redrawn w d) os) : Calls P f args (Sort.grow (redrawn w d) os) fun e w'' => e = .returned v ∧ ∃ p : Regrown, w'' = Sort.grow (redrawn w p.d) p.os :=
  h.mono fun _ _ ⟨he, hw⟩ => ⟨he, ⟨d, os⟩, hw⟩

/-- The trailer's numbers. -/
def offs (SE FE RE : Nat) (s : Nat) : Nat := if s = 0 then 14 else if s = 1 then SE else if s = 2 then FE else RE

theorem offs_mono {SE FE RE : Nat} (h0 : 14 ≤ SE) (h1 : SE ≤ FE) (h2 : FE ≤ RE) (s : Nat) : offs SE FE RE s ≤ offs SE FE RE (s + 1) := by
  unfold offs; (repeat' split) <;> omega
theorem offs_le {SE FE RE : Nat} (h0 : 14 ≤ SE) (h1 : SE ≤ FE) (h2 : FE ≤ RE) (s : Nat) : offs SE FE RE s ≤ RE := by
  unfold offs; (repeat' split) <;> omega

/-- The loops of a code, in the text's order. -/
def loopsOf : Code → List Code
  | .loop c => c :: loopsOf c
  | .seq a b => loopsOf a ++ loopsOf b
  | .block _ c => loopsOf c
  | .scope c => loopsOf c
  | .cond _ a b => loopsOf a ++ loopsOf b
  | _ => []

/-- WHAT THE LAST LOOP LEAVES. -/
def Done4 (w wy : World) (I g N SS T SE FE RE n : Nat) (f : Nat → Int) (S0 S1 S2 : Nat → ByteArray) (K : Nat → Int) (oS oF : Nat) : Prop :=
  ∃ V7 : Nat → Value, LS w wy I g w.heap.size (w.heap.size + 1 + 1) N f V7 (fun j => if j < 8 then (offs SE FE RE j : Nat) else 0) ∧ V7 1 = .slice (some ⟨g, oS, none⟩) SS SS ∧ V7 2 = .slice (some ⟨g, oF, none⟩) (40 * T) (40 * T) ∧ wy.ownsRow (w.heap.size + 3) 39 6 (V7 3) n (repCells I S0 S1 S2 K n)

end Go.Proofs.Qxb6606006aDoor.Ix
