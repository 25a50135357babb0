/-
  THE WALKS OF 'zzLeastSize' AND OF 'FnTileHeldFromItsLeastSize'.
-/
import Derived.Test.Qxb6619657aTileWalks
import Derived.WalkKit
import Derived.WalkSpells
import Derived.RowKit3
import Derived.Laws.Shifts
namespace Go.Proofs.Qxb6619657a.Tile
open Go.RowKit

theorem ret_pair {a b : Int} (c : Bool) (h : a = b) : Ending.returned (.tuple #[.int .u64 a, .bool c]) = .returned (.tuple #[.int .u64 b, .bool c]) := by rw [h]

set_option maxHeartbeats 400000 in
theorem least_ok (i v : Int) (n : Nat) (w : World) (i0 : 0 ≤ i) (v0 : 1 ≤ v) (v1 : v ≤ 256) (hn : n ≤ 268435454) (h : nd (i * 256 + v) n ≤ 18446744073709551615) :
    Calls Try.prog 11 #[.int .u64 i, .int .i64 v, .int .i64 n] w fun e w' => e = .returned (.tuple #[.int .u64 (nd (i * 256 + v) n), .bool true]) ∧ w' = w := by
  have k0 := nd_nonneg (i * 256 + v) (by omega) n
  go_enter Try.func11, Try.ntmps11
  go_wp2
  go_loop [9, 10] (fun x j => ∃ m : Nat, m ≤ n ∧ j = .int .i64 m ∧ x = .int .u64 (nd (i * 256 + v) m)) (fun _ j => n - (intOf j).toNat)
  case atStart => exact ⟨0, by omega, rfl, rfl⟩
  case round =>
    obtain ⟨m, hm, rfl, rfl⟩ := hrel
    have b0 := nd_nonneg (i * 256 + v) (by omega) m
    by_cases hlt : m < n
    · have b1 := nd_mono (i * 256 + v) (by omega) (m + 1) n (by omega)
      have b2 : nd (i * 256 + v) (m + 1) = nd (i * 256 + v) m * 256 := rfl
      have b3 : nd (i * 256 + v) m ≤ 72057594037927935 := by omega
      clear b1 b2
      go_wp2
      go_round
      case rel => exact ⟨m + 1, by omega, by go_num, rfl⟩
      case measure => simp [intOf]; omega
    · have e : m = n := by omega
      subst e
      go_wp2
      go_ret2
      exact ⟨rfl, rfl⟩

set_option maxHeartbeats 400000 in
theorem least_no (i v : Int) (n : Nat) (w : World) (i0 : 0 ≤ i) (v0 : 1 ≤ v) (v1 : v ≤ 256) (hn : n ≤ 268435454) (h : ¬ nd (i * 256 + v) n ≤ 18446744073709551615) :
    Calls Try.prog 11 #[.int .u64 i, .int .i64 v, .int .i64 n] w fun e w' => e = .returned (.tuple #[.int .u64 0, .bool false]) ∧ w' = w := by
  have H : Hid (¬ nd (i * 256 + v) n ≤ 18446744073709551615) := h
  clear h
  by_cases h1 : (18446744073709551615 - v) / 256 < i
  · go_enter Try.func11, Try.ntmps11
    go_wp2
    go_ret2
    exact ⟨rfl, rfl⟩
  go_enter Try.func11, Try.ntmps11
  go_wp2
  go_loop [9, 10] (fun x j => ∃ m : Nat, m ≤ n ∧ j = .int .i64 m ∧ x = .int .u64 (nd (i * 256 + v) m) ∧ nd (i * 256 + v) m ≤ 18446744073709551615) (fun _ j => n - (intOf j).toNat)
  case atStart => exact ⟨0, by omega, rfl, rfl, by simp only [nd]; omega⟩
  case round =>
    obtain ⟨m, hm, rfl, rfl, b1⟩ := hrel
    have b0 := nd_nonneg (i * 256 + v) (by omega) m
    by_cases hlt : m < n
    · by_cases b3 : nd (i * 256 + v) m ≤ 72057594037927935
      · go_wp2
        go_round
        case rel => exact ⟨m + 1, by omega, by go_num, rfl, by simp only [nd]; omega⟩
        case measure => simp [intOf]; omega
      · go_wp2
        go_ret2
        exact ⟨rfl, rfl⟩
    · have e : m = n := by omega
      subst e
      have := H.out
      omega

set_option maxHeartbeats 400000 in
theorem law2_out (s l i v : Int) (w : World) (s0 : 0 ≤ s) (s1 : s ≤ 18446744073709551615) (i0 : 0 ≤ i) (h1 : l ≤ 268435454) (h : l < 0 ∨ v < 1 ∨ 256 < v) :
    Calls Try.prog 4 #[.int .u64 s, .int .i64 l, .int .u64 i, .int .i64 v] w fun e w' => e = .returned (.bool true) ∧ Grown w w' := by
  have f := held_not s l i v h
  rcases (by omega : l < 0 ∨ (¬ l < 0 ∧ v < 1) ∨ (¬ l < 0 ∧ ¬ v < 1 ∧ 256 < v)) with g | ⟨g, g2⟩ | ⟨g, g2, g3⟩
  all_goals
    clear h
    go_enter Try.func4, Try.ntmps4
    go_wp2_with (go_at_call 10; refine (zz_any _ _ _ _ _ s0 s1 ?_ i0).mono ?_; omega; rintro e w' ⟨rfl, rfl⟩)
    go_ret
    exact ⟨rfl, Grown.refl _⟩

set_option maxHeartbeats 400000 in
theorem law2_in (s i v : Int) (n : Nat) (w : World) (s0 : 0 ≤ s) (s1 : s ≤ 18446744073709551615) (i0 : 0 ≤ i) (h1 : n ≤ 268435454) (v0 : 1 ≤ v) (v1 : v ≤ 256) :
    Calls Try.prog 4 #[.int .u64 s, .int .i64 n, .int .u64 i, .int .i64 v] w fun e w' => e = .returned (.bool true) ∧ Grown w w' := by
  have f := held_iff s i v n s0 (by omega) i0 v0 v1
  by_cases hk : nd (i * 256 + v) n ≤ 18446744073709551615
  · have k0 := nd_nonneg (i * 256 + v) (by omega) n
    have f1 : heldB (nd (i * 256 + v) n) n i v = true := by
      rw [held_iff _ i v n (by omega) (by omega) i0 v0 v1]; exact decide_eq_true (Int.le_refl _)
    have f2 : heldB (nd (i * 256 + v) n - 1) n i v = false := by
      rw [held_iff _ i v n (by omega) (by omega) i0 v0 v1]; exact decide_eq_false (by omega)
    by_cases hs : nd (i * 256 + v) n ≤ s
    · have f0 : heldB s n i v = true := by rw [f]; exact decide_eq_true hs
      clear f
      go_enter Try.func4, Try.ntmps4
      go_wp2_with (first | (go_at_call 10; refine (zz_any _ _ _ _ _ ?_ ?_ ?_ i0).mono ?_; omega; omega; omega; rintro e w' ⟨rfl, rfl⟩) | (go_at_call 11; refine (least_ok i v n _ i0 v0 v1 h1 hk).mono ?_; rintro e w' ⟨rfl, rfl⟩))
      go_ret
      exact ⟨rfl, Grown.refl _⟩
    · have f0 : heldB s n i v = false := by rw [f]; exact decide_eq_false hs
      clear f
      go_enter Try.func4, Try.ntmps4
      go_wp2_with (first | (go_at_call 10; refine (zz_any _ _ _ _ _ ?_ ?_ ?_ i0).mono ?_; omega; omega; omega; rintro e w' ⟨rfl, rfl⟩) | (go_at_call 11; refine (least_ok i v n _ i0 v0 v1 h1 hk).mono ?_; rintro e w' ⟨rfl, rfl⟩))
      go_ret
      exact ⟨ret_bool (a := !decide (nd (i * 256 + v) n ≤ s)) (by simp; omega), Grown.refl _⟩
  · have f0 : heldB s n i v = false := by rw [f]; exact decide_eq_false (by omega)
    clear f
    go_enter Try.func4, Try.ntmps4
    go_wp2_with (first | (go_at_call 10; refine (zz_any _ _ _ _ _ ?_ ?_ ?_ i0).mono ?_; omega; omega; omega; rintro e w' ⟨rfl, rfl⟩) | (go_at_call 11; refine (least_no i v n _ i0 v0 v1 h1 ?_).mono ?_; omega; rintro e w' ⟨rfl, rfl⟩))
    go_ret
    exact ⟨rfl, Grown.refl _⟩

theorem law2 (s l i v : Int) (w : World) (s0 : 0 ≤ s) (s1 : s ≤ 18446744073709551615) (i0 : 0 ≤ i) :
    Calls Try.prog 4 #[.int .u64 s, .int .i64 l, .int .u64 i, .int .i64 v] w fun e w' => e = .returned (.bool true) ∧ Grown w w' := by
  by_cases h1 : 268435454 < l
  · go_enter Try.func4, Try.ntmps4
    go_wp2
    go_ret
    exact ⟨rfl, Grown.refl _⟩
  by_cases h : l < 0 ∨ v < 1 ∨ 256 < v
  · exact law2_out s l i v w s0 s1 i0 (by omega) h
  · obtain ⟨n, rfl⟩ := Int.eq_ofNat_of_zero_le (a := l) (by omega)
    exact law2_in s i v n w s0 s1 i0 (by omega) (by omega) (by omega)

end Go.Proofs.Qxb6619657a.Tile
