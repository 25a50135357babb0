/-
  THE WALKS OF 'tileHeld' AND 'ZZtileHeld'.
-/
import Derived.Test.Qxb6619657aRows
import Derived.Test.Qxb6619657aTilePlain
import Derived.WalkKit
import Derived.WalkSpells
import Derived.RowKit3
import Derived.Laws.Shifts
namespace Go.Proofs.Qxb6619657a.Tile
open Go.RowKit

theorem ret_bool {a b : Bool} (h : a = b) : Ending.returned (.bool a) = .returned (.bool b) := by rw [h]

set_option maxHeartbeats 400000 in
theorem tileHeld_any (s l i v : Int) (w : World) (hs0 : 0 ≤ s) (hs1 : s ≤ 18446744073709551615) (hl : l ≤ 268435455) (hi0 : 0 ≤ i) :
    Calls Try.prog 14 #[.int .u64 s, .int .i64 l, .int .u64 i, .int .i64 v] w fun e w' => e = .returned (.bool (heldB s l i v)) ∧ w' = w := by
  by_cases h1 : l < 0
  · go_enter Try.func14, Try.ntmps14
    go_wp2
    go_ret
    exact ⟨ret_bool (held_not _ _ _ _ (by omega)).symm, rfl⟩
  by_cases h2 : v < 1
  · go_enter Try.func14, Try.ntmps14
    go_wp2
    go_ret
    exact ⟨ret_bool (held_not _ _ _ _ (by omega)).symm, rfl⟩
  by_cases h3 : 256 < v
  · go_enter Try.func14, Try.ntmps14
    go_wp2
    go_ret
    exact ⟨ret_bool (held_not _ _ _ _ (by omega)).symm, rfl⟩
  have hsh : Op.shift .shr .u64 s .i64 (8 * l) = pure (.int .u64 (hs s l)) := shift_shr_any .u64 .i64 s (8 * l) (by omega)
  have b0 := hs_nonneg s l hs0
  have b1 := hs_le s l hs0
  by_cases h4 : v ≤ hs s l
  · go_enter Try.func14, Try.ntmps14
    go_wp2
    go_ret
    exact ⟨ret_bool (held_fit s l i v (by omega) (by omega) (by omega)), rfl⟩
  · go_enter Try.func14, Try.ntmps14
    go_wp2
    go_ret
    exact ⟨ret_bool (held_small s l i v hi0 (by omega)).symm, rfl⟩

theorem zz_any (s l i v : Int) (w : World) (hs0 : 0 ≤ s) (hs1 : s ≤ 18446744073709551615) (hl : l ≤ 268435455) (hi0 : 0 ≤ i) :
    Calls Try.prog 10 #[.int .u64 s, .int .i64 l, .int .u64 i, .int .i64 v] w fun e w' => e = .returned (.bool (heldB s l i v)) ∧ w' = w := by
  go_enter Try.func10, Try.ntmps10
  go_wp2_with (go_at_call 14; refine (tileHeld_any _ _ _ _ _ hs0 hs1 hl hi0).mono ?_; rintro e w' ⟨rfl, rfl⟩)
  go_ret
  exact ⟨rfl, rfl⟩

/-- The same, the answer known: true. -/
theorem zz_true (s l i v : Int) (w : World) (hs0 : 0 ≤ s) (hs1 : s ≤ 18446744073709551615) (hl : l ≤ 268435455) (hi0 : 0 ≤ i) (h : heldB s l i v = true) :
    Calls Try.prog 10 #[.int .u64 s, .int .i64 l, .int .u64 i, .int .i64 v] w fun e w' => e = .returned (.bool true) ∧ w' = w := by
  have := zz_any s l i v w hs0 hs1 hl hi0
  rwa [h] at this

/-- The same, the answer known: false. -/
theorem zz_false (s l i v : Int) (w : World) (hs0 : 0 ≤ s) (hs1 : s ≤ 18446744073709551615) (hl : l ≤ 268435455) (hi0 : 0 ≤ i) (h : heldB s l i v = false) :
    Calls Try.prog 10 #[.int .u64 s, .int .i64 l, .int .u64 i, .int .i64 v] w fun e w' => e = .returned (.bool false) ∧ w' = w := by
  have := zz_any s l i v w hs0 hs1 hl hi0
  rwa [h] at this

end Go.Proofs.Qxb6619657a.Tile
