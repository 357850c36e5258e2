import Derived.WalkKit
namespace Go.Proofs.Qxb6606006a.Post

/-- One entry: the trigram's lower 12 bits above the file's ID. -/
def ent (id t : Int) : Int := (t % 4096) * 4503599627370496 + id
/-- What the first c trigrams of a list add to bucket k. -/
def bk (id : Int) (Z : Nat → Int) (k : Nat) : Nat → List Int
  | 0 => []
  | c + 1 => bk id Z k c ++ if (Z c / 4096).toNat = k then [ent id (Z c)] else []
/-- What the first i lists add to bucket k. -/
def all (base : Int) (Z : Nat → Nat → Int) (L : Nat → Nat) (k : Nat) : Nat → List Int
  | 0 => []
  | i + 1 => all base Z L k i ++ bk (base + i) (Z i) k (L i)
/-- What the law wants: of one list, of the first i lists. -/
def w1 (id : Int) (Z : Nat → Int) (p : Int) : Nat → List Int
  | 0 => []
  | c + 1 => w1 id Z p c ++ if Z c = p then [id] else []
def wnt (base : Int) (Z : Nat → Nat → Int) (L : Nat → Nat) (p : Int) : Nat → List Int
  | 0 => []
  | i + 1 => wnt base Z L p i ++ w1 (base + i) (Z i) p (L i)
/-- What the law reads off a bucket. -/
def rd (p : Int) (l : List Int) : List Int := (l.filter fun e => e / 4503599627370496 == p % 4096).map fun e => e % 4503599627370496

theorem rd_nil (p : Int) : rd p [] = [] := rfl
theorem rd_append (p : Int) (a b : List Int) : rd p (a ++ b) = rd p a ++ rd p b := by simp [rd]

theorem ent_hi {id t : Int} (h0 : 0 ≤ id) (h1 : id < 4503599627370496) : ent id t / 4503599627370496 = t % 4096 := by unfold ent; omega
theorem ent_lo {id t : Int} (h0 : 0 ≤ id) (h1 : id < 4503599627370496) : ent id t % 4503599627370496 = id := by unfold ent; omega

theorem rd_bk {id p : Int} {Z : Nat → Int} (h0 : 0 ≤ id) (h1 : id < 4503599627370496) (hp : 0 ≤ p) : ∀ c, (∀ j, j < c → 0 ≤ Z j) → rd p (bk id Z (p / 4096).toNat c) = w1 id Z p c
  | 0, _ => rfl
  | c + 1, hZ => by
    have hz := hZ c (by omega)
    rw [bk, w1, rd_append, rd_bk h0 h1 hp c (fun j hj => hZ j (by omega))]
    congr 1
    by_cases e : Z c = p
    · subst e
      rw [if_pos rfl, if_pos rfl]
      simp [rd, ent_hi h0 h1, ent_lo h0 h1]
    · rw [if_neg e]
      by_cases k : (Z c / 4096).toNat = (p / 4096).toNat
      · rw [if_pos k]
        have : ¬ Z c % 4096 = p % 4096 := by omega
        simp [rd, ent_hi h0 h1, this]
      · rw [if_neg k]; rfl

theorem rd_all {base p : Int} {Z : Nat → Nat → Int} {L : Nat → Nat} {G : Nat} (h0 : 0 ≤ base) (h1 : base + G ≤ 4503599627370496) (hp : 0 ≤ p) (hZ : ∀ r, r < G → ∀ j, j < L r → 0 ≤ Z r j) : ∀ i, i ≤ G → rd p (all base Z L (p / 4096).toNat i) = wnt base Z L p i
  | 0, _ => rfl
  | i + 1, hi => by
    rw [all, wnt, rd_append, rd_all h0 h1 hp hZ i (by omega), rd_bk (by omega) (by omega) hp (L i) (hZ i (by omega))]

theorem bk_le (id : Int) (Z : Nat → Int) (k : Nat) : ∀ c, (bk id Z k c).length ≤ c
  | 0 => Nat.le_refl _
  | c + 1 => by
    have := bk_le id Z k c
    rw [bk, List.length_append]
    split
    · simp; omega
    · simp; omega

/-- The lists' lengths added up. -/
def sumL (L : Nat → Nat) : Nat → Nat
  | 0 => 0
  | i + 1 => sumL L i + L i

theorem all_le (base : Int) (Z : Nat → Nat → Int) (L : Nat → Nat) (k : Nat) : ∀ i, (all base Z L k i).length ≤ sumL L i
  | 0 => Nat.le_refl _
  | i + 1 => by
    have h1 := all_le base Z L k i
    have h2 := bk_le (base + i) (Z i) k (L i)
    rw [all, List.length_append, sumL]
    omega

theorem sumL_mono (L : Nat → Nat) {i j : Nat} (h : i ≤ j) : sumL L i ≤ sumL L j := by
  induction j with
  | zero => obtain rfl : i = 0 := by omega
            exact Nat.le_refl _
  | succ j ih =>
    by_cases e : i = j + 1
    · subst e; exact Nat.le_refl _
    · have := ih (by omega)
      rw [sumL]; omega

theorem w1_le (id : Int) (Z : Nat → Int) (p : Int) : ∀ c, (w1 id Z p c).length ≤ c
  | 0 => Nat.le_refl _
  | c + 1 => by
    have := w1_le id Z p c
    rw [w1, List.length_append]
    split
    · simp; omega
    · simp; omega
theorem wnt_le (base : Int) (Z : Nat → Nat → Int) (L : Nat → Nat) (p : Int) : ∀ i, (wnt base Z L p i).length ≤ sumL L i
  | 0 => Nat.le_refl _
  | i + 1 => by
    have h1 := wnt_le base Z L p i
    have h2 := w1_le (base + i) (Z i) p (L i)
    rw [wnt, List.length_append, sumL]
    omega

/-- An entry fits in 64 bits. -/
theorem bk_in {id : Int} {Z : Nat → Int} {k : Nat} (h0 : 0 ≤ id) (h1 : id < 4503599627370496) : ∀ c, ∀ e ∈ bk id Z k c, 0 ≤ e ∧ e < 18446744073709551616
  | 0 => by simp [bk]
  | c + 1 => by
    intro e he
    rw [bk, List.mem_append] at he
    rcases he with he | he
    · exact bk_in h0 h1 c e he
    · split at he
      · simp at he
        subst he
        unfold ent
        omega
      · simp at he
theorem all_in {base : Int} {Z : Nat → Nat → Int} {L : Nat → Nat} {k G : Nat} (h0 : 0 ≤ base) (h1 : base + G ≤ 4503599627370496) : ∀ i, i ≤ G → ∀ e ∈ all base Z L k i, 0 ≤ e ∧ e < 18446744073709551616
  | 0, _ => by simp [all]
  | i + 1, hi => by
    intro e he
    rw [all, List.mem_append] at he
    rcases he with he | he
    · exact all_in h0 h1 i (by omega) e he
    · exact bk_in (by omega) (by omega) _ e he

theorem rd_snoc (p : Int) (l : List Int) (e : Int) : rd p (l ++ [e]) = rd p l ++ if (e / 4503599627370496 == p % 4096) = true then [e % 4503599627370496] else [] := by
  rw [rd_append]
  congr 1
  simp only [rd, List.filter_cons, List.filter_nil]
  split <;> simp_all
theorem rd_le (p : Int) (l : List Int) : (rd p l).length ≤ l.length := by
  simp only [rd, List.length_map]
  exact List.length_filter_le _ _

/-! ### bits -/
theorem and12 (x : Int) (h0 : 0 ≤ x) (h1 : x < 4294967296) : bits .and .u32 x 4095 = x % 4096 := by
  rw [u32_and x 4095 h0 h1 (by omega) (by omega)]
  have := Nat.and_two_pow_sub_one_eq_mod x.toNat 12
  simp only [Nat.reducePow, Nat.reduceSub] at this
  have e : (4095 : Int).toNat = 4095 := rfl
  rw [e, this]
  omega
theorem and52 (x : Int) (h0 : 0 ≤ x) (h1 : x < 18446744073709551616) : bits .and .u64 x 4503599627370495 = x % 4503599627370496 := by
  rw [u64_and x 4503599627370495 h0 h1 (by omega) (by omega)]
  have := Nat.and_two_pow_sub_one_eq_mod x.toNat 52
  simp only [Nat.reducePow, Nat.reduceSub] at this
  have e : (4503599627370495 : Int).toNat = 4503599627370495 := rfl
  rw [e, this]
  omega
theorem or52 (id t : Int) (h0 : 0 ≤ id) (h1 : id < 4503599627370496) : bits .or .u64 (t % 4096 * 4503599627370496) id = ent id t := by
  rw [u64_or _ id (by omega) (by omega) h0 (by omega)]
  rw [nat_join 52 _ _ (by omega) (by omega)]
  unfold ent
  omega

end Go.Proofs.Qxb6606006a.Post
