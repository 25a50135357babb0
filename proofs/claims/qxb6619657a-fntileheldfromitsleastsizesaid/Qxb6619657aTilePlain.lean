/-
  THE PLAIN ARITHMETIC OF THE TILES: no Go in sight.
-/
namespace Go.Proofs.Qxb6619657a.Tile

/-- 'size >> (8*level)' as the walk spells it. -/
def hs (s l : Int) : Int := s / 2 ^ min (8 * l).toNat 64

/-- A ledger of s holds the tile at level l and index i of w hashes. -/
def heldB (s l i w : Int) : Bool := decide (0 ≤ l ∧ 1 ≤ w ∧ w ≤ 256 ∧ i * 256 + w ≤ hs s l)

/-- 'k * 256^n', a round at a time. -/
def nd (k : Int) : Nat → Int
  | 0 => k
  | n + 1 => nd k n * 256

theorem nd_pow (k : Int) : ∀ n, nd k n = k * 2 ^ (8 * n)
  | 0 => by simp [nd]
  | n + 1 => by
    have e : (2 : Int) ^ (8 * (n + 1)) = 2 ^ (8 * n) * 256 := by
      rw [show 8 * (n + 1) = 8 * n + 8 from by omega, Int.pow_add]; rfl
    rw [nd, nd_pow k n, e, Int.mul_assoc]

theorem nd_mono (k : Int) (hk : 0 ≤ k) : ∀ n m, n ≤ m → nd k n ≤ nd k m := by
  intro n m h
  induction h with
  | refl => exact Int.le_refl _
  | @step m' h ih =>
    have h0 : 0 ≤ nd k m' := by rw [nd_pow]; exact Int.mul_nonneg hk (Int.le_of_lt (Int.pow_pos (by decide)))
    rw [nd]; omega

theorem nd_nonneg (k : Int) (hk : 0 ≤ k) (n : Nat) : k ≤ nd k n := nd_mono k hk 0 n (Nat.zero_le _)

theorem hs_zero (s : Int) : hs s 0 = s := by simp [hs]

theorem hs_nonneg (s l : Int) (hs0 : 0 ≤ s) : 0 ≤ hs s l := Int.ediv_nonneg hs0 (Int.le_of_lt (Int.pow_pos (by decide)))

theorem hs_le (s l : Int) (h0 : 0 ≤ s) : hs s l ≤ s := Int.ediv_le_self _ h0

theorem hs_far (s l : Int) (h0 : 0 ≤ s) (h1 : s < 18446744073709551616) (hl : 8 ≤ l) : hs s l = 0 := by
  unfold hs
  rw [Nat.min_eq_right (by omega)]
  exact Int.ediv_eq_zero_of_lt h0 h1

theorem hs_near (s l : Int) (h : l ≤ 8) : hs s l = s / 2 ^ (8 * l).toNat := by
  unfold hs; rw [Nat.min_eq_left (by omega)]

/-- One level up is the same tile over 'size >> 8'. -/
theorem hs_succ (s l : Int) (h0 : 0 ≤ s) (h1 : s < 18446744073709551616) (hl : 0 ≤ l) : hs s (l + 1) = hs (s / 256) l := by
  by_cases h : l < 8
  · rw [hs_near _ _ (by omega), hs_near _ _ (by omega), show (8 * (l + 1)).toNat = 8 + (8 * l).toNat from by omega, Int.pow_add]
    rw [Int.ediv_ediv_of_nonneg (by decide)]; rfl
  · rw [hs_far _ _ h0 h1 (by omega), hs_far _ _ (by omega) (by omega) (by omega)]

theorem hs_step (s l : Int) (hl : 0 ≤ l) (h : l < 8) : hs s l / 256 = hs s (l + 1) := by
  rw [hs_near _ _ (by omega), hs_near _ _ (by omega), show (8 * (l + 1)).toNat = (8 * l).toNat + 8 from by omega, Int.pow_add]
  rw [Int.ediv_ediv_of_nonneg (Int.le_of_lt (Int.pow_pos (by decide)))]; rfl

theorem le_hs (s k : Int) (n : Nat) (h0 : 0 ≤ s) (h1 : s < 18446744073709551616) (hk : 1 ≤ k) : k ≤ hs s n ↔ nd k n ≤ s := by
  by_cases h : n ≤ 8
  · rw [hs_near _ _ (by omega), show (8 * (n : Int)).toNat = 8 * n from by omega, nd_pow]
    exact Int.le_ediv_iff_mul_le (Int.pow_pos (by decide))
  · rw [hs_far _ _ h0 h1 (by omega)]
    have a := nd_mono k (by omega) 8 n (by omega)
    have b : nd k 8 = k * 18446744073709551616 := by rw [nd_pow]; rfl
    rw [b] at a
    constructor <;> intro _ <;> omega

theorem held_neg (s l i w : Int) (h : l < 0) : heldB s l i w = false := by
  unfold heldB; exact decide_eq_false (by omega)

theorem held_up (s l i w : Int) (h0 : 0 ≤ s) (h1 : s < 18446744073709551616) (hl : 0 ≤ l) : heldB s (l + 1) i w = heldB (s / 256) l i w := by
  unfold heldB
  rw [hs_succ s l h0 h1 hl, decide_eq_decide]
  omega

theorem held_rest (s l : Int) (hl : 0 ≤ l) (hr : 0 < hs s l % 256) : heldB s l (hs s l / 256) (hs s l % 256) = true := by
  unfold heldB; exact decide_eq_true (by omega)

theorem held_rest_more (s l : Int) : heldB s l (hs s l / 256) (hs s l % 256 + 1) = false := by
  unfold heldB; exact decide_eq_false (by omega)

theorem held_full (s l : Int) (hl : 0 ≤ l) : heldB s l (hs s l / 256 - 1) 256 = true := by
  unfold heldB; exact decide_eq_true (by omega)

theorem held_full_next (s l : Int) : heldB s l (hs s l / 256) 256 = false := by
  unfold heldB; exact decide_eq_false (by omega)

theorem held_none (s l : Int) (h : hs s l = 0) : heldB s l 0 1 = false := by
  unfold heldB; exact decide_eq_false (by omega)

/-- What the loop's rounds have shifted off, at most eight of them, is what the level shifts off. -/
theorem hs_end (s l k : Int) (h0 : 0 ≤ s) (h1 : s < 18446744073709551616) (hk : k ≤ l) (hk8 : k ≤ 8) (h : ¬ k < l ∨ ¬ k < 8) : hs s k = hs s l := by
  by_cases e : k = l
  · rw [e]
  · rw [hs_far s k h0 h1 (by omega), hs_far s l h0 h1 (by omega)]

/-! The least size. -/
theorem held_iff (s i w : Int) (n : Nat) (h0 : 0 ≤ s) (h1 : s < 18446744073709551616) (hi : 0 ≤ i) (hw : 1 ≤ w) (hw2 : w ≤ 256) :
    heldB s n i w = decide (nd (i * 256 + w) n ≤ s) := by
  unfold heldB
  rw [decide_eq_decide, ← le_hs s (i * 256 + w) n h0 h1 (by omega)]
  omega

theorem held_not (s l i w : Int) (h : l < 0 ∨ w < 1 ∨ 256 < w) : heldB s l i w = false := by
  unfold heldB; exact decide_eq_false (by omega)

theorem held_fit (s l i w : Int) (hl : 0 ≤ l) (h1 : 1 ≤ w) (h2 : w ≤ 256) : decide (i ≤ (hs s l - w) / 256) = heldB s l i w := by
  unfold heldB; rw [decide_eq_decide]; omega

theorem held_small (s l i w : Int) (hi : 0 ≤ i) (h : hs s l < w) : heldB s l i w = false := by
  unfold heldB; exact decide_eq_false (by omega)

end Go.Proofs.Qxb6619657a.Tile
