import Derived.Test.Qxb6606006aDoorFits
namespace Go.Proofs.Qxb6606006aDoor.Ix
set_option linter.unusedVariables false

/-- Eight bytes at p spell v, the least first. -/
def le8 (f : Nat → Int) (p : Nat) (v : Int) : Prop := ∀ j, j < 8 → f (p + j) = byteOf v j
/-- The bytes of s lie at p. -/
def strAt (f : Nat → Int) (p : Nat) (s : ByteArray) : Prop := ∀ j, j < s.size → f (p + j) = byteAt s j

theorem put8_off {f : Nat → Int} {a p : Nat} {v : Int} (h : p < a ∨ a + 8 ≤ p) : put8 f a v p = f p := by unfold put8; rw [if_neg (by omega)]
theorem puts_off {f : Nat → Int} {a p : Nat} {s : ByteArray} (h : p < a ∨ a + s.size ≤ p) : puts f a s p = f p := by unfold puts; rw [if_neg (by omega)]
theorem le8_put8 (f : Nat → Int) (a : Nat) (v : Int) : le8 (put8 f a v) a v := fun j hj => by unfold put8; rw [if_pos (by omega)]; congr 1; omega
theorem strAt_puts (f : Nat → Int) (a : Nat) (s : ByteArray) : strAt (puts f a s) a s := fun j hj => by unfold puts; rw [if_pos (by omega)]; congr 1; omega
theorem le8.put8 {f : Nat → Int} {p a : Nat} {v x : Int} (h : le8 f p v) (ho : p + 8 ≤ a ∨ a + 8 ≤ p) : le8 (put8 f a x) p v := fun j hj => by rw [put8_off (by omega)]; exact h j hj
theorem le8.puts {f : Nat → Int} {p a : Nat} {v : Int} {s : ByteArray} (h : le8 f p v) (ho : p + 8 ≤ a ∨ a + s.size ≤ p) : le8 (puts f a s) p v := fun j hj => by rw [puts_off (by omega)]; exact h j hj
theorem strAt.put8 {f : Nat → Int} {p a : Nat} {x : Int} {s : ByteArray} (h : strAt f p s) (ho : p + s.size ≤ a ∨ a + 8 ≤ p) : strAt (put8 f a x) p s := fun j hj => by rw [put8_off (by omega)]; exact h j hj
theorem strAt.puts {f : Nat → Int} {p a : Nat} {s t : ByteArray} (h : strAt f p s) (ho : p + s.size ≤ a ∨ a + t.size ≤ p) : strAt (puts f a t) p s := fun j hj => by rw [puts_off (by omega)]; exact h j hj

/-- The header's bytes. -/
def hdrS : ByteArray := ⟨#[99, 97, 105, 114, 110, 32, 105, 110, 100, 101, 120, 32, 51, 10]⟩

/-- Record r, and its three strings. -/
structure Rec (f : Nat → Int) (S0 S1 S2 : Nat → ByteArray) (K : Nat → Int) (FE r : Nat) : Prop where
  r0 : le8 f (FE + 48 * r) (sumS S0 S1 S2 r)
  r1 : le8 f (FE + 48 * r + 8) (S0 r).size
  r2 : le8 f (FE + 48 * r + 16) (S1 r).size
  r3 : le8 f (FE + 48 * r + 24) (S2 r).size
  r4 : le8 f (FE + 48 * r + 32) (sumK K r)
  r5 : le8 f (FE + 48 * r + 40) (K r)
  s0 : strAt f (14 + sumS S0 S1 S2 r) (S0 r)
  s1 : strAt f (14 + sumS S0 S1 S2 r + (S0 r).size) (S1 r)
  s2 : strAt f (14 + sumS S0 S1 S2 r + (S0 r).size + (S1 r).size) (S2 r)

/-- WHAT THE IMAGE HOLDS when i repositories are written. -/
structure Part (f : Nat → Int) (S0 S1 S2 : Nat → ByteArray) (K : Nat → Int) (n i : Nat) : Prop where
  hdr : strAt f 0 hdrS
  files : ∀ p, 14 + sumS S0 S1 S2 n ≤ p → p < 14 + sumS S0 S1 S2 n + 40 * sumK K n → f p = 0
  recs : ∀ r, r < i → Rec f S0 S1 S2 K (14 + sumS S0 S1 S2 n + 40 * sumK K n) r

theorem sumS_mono (S0 S1 S2 : Nat → ByteArray) {i j : Nat} (h : i ≤ j) : sumS S0 S1 S2 i ≤ sumS S0 S1 S2 j := by
  induction j with
  | zero => obtain rfl : i = 0 := by omega
            exact Nat.le_refl _
  | succ j ih =>
    by_cases e : i = j + 1
    · subst e; exact Nat.le_refl _
    · have := ih (by omega)
      rw [sumS]; omega
theorem sumK_mono (K : Nat → Int) {i j : Nat} (h : i ≤ j) : sumK K i ≤ sumK K j := by
  induction j with
  | zero => obtain rfl : i = 0 := by omega
            exact Nat.le_refl _
  | succ j ih =>
    by_cases e : i = j + 1
    · subst e; exact Nat.le_refl _
    · have := ih (by omega)
      rw [sumK]; omega

/-- Repository i's part of the image. -/
def putRec (f : Nat → Int) (S0 S1 S2 : Nat → ByteArray) (K : Nat → Int) (FE i : Nat) : Nat → Int :=
  puts (puts (puts (put8 (put8 (put8 (put8 (put8 (put8 f (FE + 48 * i) (sumS S0 S1 S2 i)) (FE + 48 * i + 8) (S0 i).size) (FE + 48 * i + 16) (S1 i).size) (FE + 48 * i + 24) (S2 i).size) (FE + 48 * i + 32) (sumK K i)) (FE + 48 * i + 40) (K i))
    (14 + sumS S0 S1 S2 i) (S0 i)) (14 + sumS S0 S1 S2 i + (S0 i).size) (S1 i)) (14 + sumS S0 S1 S2 i + (S0 i).size + (S1 i).size) (S2 i)

theorem putRec_off {f : Nat → Int} {S0 S1 S2 : Nat → ByteArray} {K : Nat → Int} {FE i p : Nat} (h1 : p < FE + 48 * i ∨ FE + 48 * i + 48 ≤ p) (h2 : p < 14 + sumS S0 S1 S2 i ∨ 14 + sumS S0 S1 S2 (i + 1) ≤ p) : putRec f S0 S1 S2 K FE i p = f p := by
  rw [sumS] at h2
  unfold putRec
  rw [puts_off (by omega), puts_off (by omega), puts_off (by omega), put8_off (by omega), put8_off (by omega), put8_off (by omega), put8_off (by omega), put8_off (by omega), put8_off (by omega)]

theorem hdrS_size : hdrS.size = 14 := rfl

set_option maxHeartbeats 1000000 in
theorem rec_new {f : Nat → Int} {S0 S1 S2 : Nat → ByteArray} {K : Nat → Int} {FE r : Nat} (m2 : 14 + sumS S0 S1 S2 r + ((S0 r).size + (S1 r).size + (S2 r).size) ≤ FE) : Rec (putRec f S0 S1 S2 K FE r) S0 S1 S2 K FE r := by
  unfold putRec
  refine ⟨?_, ?_, ?_, ?_, ?_, ?_, ?_, ?_, ?_⟩
  · refine le8.puts ?_ (by omega); refine le8.puts ?_ (by omega); refine le8.puts ?_ (by omega)
    refine le8.put8 ?_ (by omega); refine le8.put8 ?_ (by omega); refine le8.put8 ?_ (by omega); refine le8.put8 ?_ (by omega); refine le8.put8 ?_ (by omega)
    exact le8_put8 _ _ _
  · refine le8.puts ?_ (by omega); refine le8.puts ?_ (by omega); refine le8.puts ?_ (by omega)
    refine le8.put8 ?_ (by omega); refine le8.put8 ?_ (by omega); refine le8.put8 ?_ (by omega); refine le8.put8 ?_ (by omega)
    exact le8_put8 _ _ _
  · refine le8.puts ?_ (by omega); refine le8.puts ?_ (by omega); refine le8.puts ?_ (by omega)
    refine le8.put8 ?_ (by omega); refine le8.put8 ?_ (by omega); refine le8.put8 ?_ (by omega)
    exact le8_put8 _ _ _
  · refine le8.puts ?_ (by omega); refine le8.puts ?_ (by omega); refine le8.puts ?_ (by omega)
    refine le8.put8 ?_ (by omega); refine le8.put8 ?_ (by omega)
    exact le8_put8 _ _ _
  · refine le8.puts ?_ (by omega); refine le8.puts ?_ (by omega); refine le8.puts ?_ (by omega)
    refine le8.put8 ?_ (by omega)
    exact le8_put8 _ _ _
  · refine le8.puts ?_ (by omega); refine le8.puts ?_ (by omega); refine le8.puts ?_ (by omega)
    exact le8_put8 _ _ _
  · refine strAt.puts ?_ (by omega); refine strAt.puts ?_ (by omega)
    exact strAt_puts _ _ _
  · refine strAt.puts ?_ (by omega)
    exact strAt_puts _ _ _
  · exact strAt_puts _ _ _

theorem part_step {f : Nat → Int} {S0 S1 S2 : Nat → ByteArray} {K : Nat → Int} {n i : Nat} (h : Part f S0 S1 S2 K n i) (hi : i < n) : Part (putRec f S0 S1 S2 K (14 + sumS S0 S1 S2 n + 40 * sumK K n) i) S0 S1 S2 K n (i + 1) := by
  have m1 := sumS_mono S0 S1 S2 (show i + 1 ≤ n by omega)
  have m2 := m1
  rw [sumS] at m2
  obtain ⟨FE, hFE⟩ : ∃ FE, FE = 14 + sumS S0 S1 S2 n + 40 * sumK K n := ⟨_, rfl⟩
  rw [← hFE]
  refine ⟨fun j hj => ?_, fun p hp1 hp2 => ?_, fun r hr => ?_⟩
  · rw [hdrS_size] at hj
    rw [putRec_off (by omega) (by omega)]
    exact h.hdr j (by rw [hdrS_size]; exact hj)
  · rw [putRec_off (by omega) (by omega)]
    exact h.files p hp1 (by omega)
  · by_cases e : r = i
    · subst e
      rw [← hFE]
      exact rec_new (by omega)
    · have q := h.recs r (by omega)
      rw [← hFE] at q ⊢
      have m3 := sumS_mono S0 S1 S2 (show r + 1 ≤ i by omega)
      rw [sumS] at m3
      have hle : ∀ p v, le8 f p v → FE ≤ p → p + 8 ≤ FE + 48 * i → le8 (putRec f S0 S1 S2 K FE i) p v := fun p v hp h1 h2 j hj => by rw [putRec_off (by omega) (by omega)]; exact hp j hj
      have hst : ∀ p s, strAt f p s → p + s.size ≤ 14 + sumS S0 S1 S2 i → strAt (putRec f S0 S1 S2 K FE i) p s := fun p s hp h1 j hj => by rw [putRec_off (by omega) (by omega)]; exact hp j hj
      exact ⟨hle _ _ q.r0 (by omega) (by omega), hle _ _ q.r1 (by omega) (by omega), hle _ _ q.r2 (by omega) (by omega), hle _ _ q.r3 (by omega) (by omega), hle _ _ q.r4 (by omega) (by omega), hle _ _ q.r5 (by omega) (by omega), hst _ _ q.s0 (by omega), hst _ _ q.s1 (by omega), hst _ _ q.s2 (by omega)⟩

/-- THE WHOLE IMAGE. -/
structure Img (f : Nat → Int) (S0 S1 S2 : Nat → ByteArray) (K : Nat → Int) (n : Nat) : Prop extends Part f S0 S1 S2 K n n where
  t0 : le8 f (14 + sumS S0 S1 S2 n + 40 * sumK K n + 48 * n) 14
  t1 : le8 f (14 + sumS S0 S1 S2 n + 40 * sumK K n + 48 * n + 8) ((14 + sumS S0 S1 S2 n : Nat) : Int)
  t2 : le8 f (14 + sumS S0 S1 S2 n + 40 * sumK K n + 48 * n + 16) ((14 + sumS S0 S1 S2 n + 40 * sumK K n : Nat) : Int)
  t3 : ∀ s, 3 ≤ s → s < 8 → le8 f (14 + sumS S0 S1 S2 n + 40 * sumK K n + 48 * n + 8 * s) ((14 + sumS S0 S1 S2 n + 40 * sumK K n + 48 * n : Nat) : Int)

theorem Part.congr {f f' : Nat → Int} {S0 S1 S2 : Nat → ByteArray} {K : Nat → Int} {n i : Nat} (h : Part f S0 S1 S2 K n i) (hi : i ≤ n) (e : ∀ p, p < 14 + sumS S0 S1 S2 n + 40 * sumK K n + 48 * n → f' p = f p) : Part f' S0 S1 S2 K n i := by
  refine ⟨fun j hj => ?_, fun p h1 h2 => ?_, fun r hr => ?_⟩
  · have := hdrS_size; rw [e _ (by omega)]; exact h.hdr j hj
  · rw [e _ (by omega)]; exact h.files p h1 h2
  · have q := h.recs r hr
    have m3 := sumS_mono S0 S1 S2 (show r + 1 ≤ n by omega)
    rw [sumS] at m3
    exact ⟨fun j hj => by rw [e _ (by omega)]; exact q.r0 j hj, fun j hj => by rw [e _ (by omega)]; exact q.r1 j hj, fun j hj => by rw [e _ (by omega)]; exact q.r2 j hj, fun j hj => by rw [e _ (by omega)]; exact q.r3 j hj, fun j hj => by rw [e _ (by omega)]; exact q.r4 j hj, fun j hj => by rw [e _ (by omega)]; exact q.r5 j hj,
      fun j hj => by rw [e _ (by omega)]; exact q.s0 j hj, fun j hj => by rw [e _ (by omega)]; exact q.s1 j hj, fun j hj => by rw [e _ (by omega)]; exact q.s2 j hj⟩

end Go.Proofs.Qxb6606006aDoor.Ix
