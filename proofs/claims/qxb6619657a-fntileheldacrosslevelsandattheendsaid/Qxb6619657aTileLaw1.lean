/-
  THE WALK OF 'FnTileHeldAcrossLevelsAndAtTheEnd'.
-/
import Derived.Test.Qxb6619657aTileWalks
import Derived.WalkKit
import Derived.WalkSpells
import Derived.RowKit3
import Derived.Laws.Shifts
namespace Go.Proofs.Qxb6619657a.Tile
open Go.RowKit

set_option maxHeartbeats 400000 in
theorem law1 (s l i v : Int) (w : World) (s0 : 0 ≤ s) (s1 : s ≤ 18446744073709551615) (i0 : 0 ≤ i) :
    Calls Try.prog 5 #[.int .u64 s, .int .i64 l, .int .u64 i, .int .i64 v] w fun e w' => e = .returned (.bool true) ∧ Grown w w' := by
  by_cases h1 : 268435454 < l
  · go_enter Try.func5, Try.ntmps5
    go_wp2
    go_ret
    exact ⟨rfl, Grown.refl _⟩
  by_cases h2 : l < 0
  · go_enter Try.func5, Try.ntmps5
    go_wp2_with (go_at_call 10; refine (zz_false _ _ _ _ _ s0 s1 (by omega) i0 (held_neg _ _ _ _ h2)).mono ?_; rintro e w' ⟨rfl, rfl⟩)
    go_ret
    exact ⟨rfl, Grown.refl _⟩
  have hup := held_up s l i v s0 (by omega) (by omega)
  go_enter Try.func5, Try.ntmps5
  go_wp2_with (go_at_call 10; refine (zz_any _ _ _ _ _ ?_ ?_ ?_ ?_).mono ?_; omega; omega; omega; omega; rintro e w' ⟨rfl, rfl⟩)
  have b0 := hs_nonneg s l s0
  have b1 := hs_le s l s0
  clear hup
  go_loop [11, 12] (fun h j => ∃ k : Nat, (k : Int) ≤ l ∧ k ≤ 8 ∧ j = .int .i64 k ∧ h = .int .u64 (hs s k)) (fun _ j => 8 - (intOf j).toNat)
  case atStart => exact ⟨0, by omega, by omega, rfl, by rw [show ((0 : Nat) : Int) = 0 from rfl, hs_zero]⟩
  case round =>
    obtain ⟨k, hk, hk8, rfl, rfl⟩ := hrel
    have c0 := hs_nonneg s k s0
    have c1 := hs_le s k s0
    rcases (by omega : ((k : Int) < l ∧ (k : Int) < 8) ∨ ((k : Int) < l ∧ ¬ (k : Int) < 8) ∨ ¬ (k : Int) < l) with ⟨ga, gb⟩ | ⟨ga, gb⟩ | ga
    · go_wp2
      go_round
      case rel => exact ⟨k + 1, by omega, by omega, by go_num, by rw [hs_step s k (by omega) (by omega)]; rfl⟩
      case measure => simp [intOf]; omega
    all_goals
      have hE := hs_end s l k s0 (by omega) hk (by omega) (by omega)
      have q0 : 0 ≤ hs s l / 256 := by omega
      have hl1 : l ≤ 268435455 := by omega
      have f2 := held_rest_more s l
      have f3 := held_full s l h2
      have f4 := held_full_next s l
      by_cases g1 : 0 < hs s l % 256
      · have f1 := held_rest s l h2 g1
        have g0 : (hs s l == 0) = false := by simp; omega
        by_cases g2 : 0 < hs s l / 256
        all_goals
          go_wp2_with (go_at_call 10; refine (zz_any _ _ _ _ _ s0 s1 hl1 ?_).mono ?_; omega; rintro e w' ⟨rfl, rfl⟩)
          go_ret
          exact ⟨rfl, Grown.refl _⟩
      · by_cases g2 : 0 < hs s l / 256
        · have g0 : (hs s l == 0) = false := by simp; omega
          go_wp2_with (go_at_call 10; refine (zz_any _ _ _ _ _ s0 s1 hl1 ?_).mono ?_; omega; rintro e w' ⟨rfl, rfl⟩)
          go_ret
          exact ⟨rfl, Grown.refl _⟩
        · have g00 : hs s l = 0 := by omega
          have f5 := held_none s l g00
          have g0 : (hs s l == 0) = true := by simp; omega
          clear g00
          go_wp2_with (go_at_call 10; refine (zz_any _ _ _ _ _ s0 s1 hl1 ?_).mono ?_; omega; rintro e w' ⟨rfl, rfl⟩)
          go_ret
          exact ⟨rfl, Grown.refl _⟩
end Go.Proofs.Qxb6619657a.Tile
