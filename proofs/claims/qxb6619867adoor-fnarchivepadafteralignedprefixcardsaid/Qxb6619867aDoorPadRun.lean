/-
  THE WALKS OF 'pad', 'ZZPad', 'padRun': the buffer's two methods taken by the shelf's contracts at a field.
-/
import Derived.Test.Qxb6619867aDoorPadBuf
import Derived.Deep.LoopGhost
import Derived.Test.Qxb6619867aDoorShelf
namespace Go.Proofs.Qxb6619867aDoor.Pad
open Go.RowKit

/-- The least multiple of 4 that is not below n. -/
def pl (n : Nat) : Nat := (n + 3) / 4 * 4
/-- The first n bytes of f, zeros behind them. -/
def padf (n : Nat) (f : Nat → Int) : Nat → Int := fun i => if i < n then f i else 0

theorem cellsOf_congr {f g : Nat → Int} {n : Nat} (h : ∀ i, i < n → f i = g i) : cellsOf f n = cellsOf g n := by
  unfold cellsOf
  apply List.map_congr_left
  intro i hi
  rw [h i (by simpa using hi)]
theorem cellsOf_pad (f : Nat → Int) (n : Nat) : cellsOf f n = cellsOf (padf n f) n := cellsOf_congr (fun i hi => by unfold padf; rw [if_pos hi])
theorem cellsOf_snoc (f : Nat → Int) (n m : Nat) (h : n ≤ m) : cellsOf (padf n f) m ++ [.int .u8 0] = cellsOf (padf n f) (m + 1) := by
  unfold cellsOf
  rw [List.range_succ, List.map_append]
  have e : padf n f m = 0 := by unfold padf; rw [if_neg (by omega)]
  simp [e]

set_option maxHeartbeats 400000 in
theorem pad_any (T : TypeId) (R : Nat → Option Value) (B b : Nat) (f : Nat → Int) (n : Nat) (w : World) (hn : n ≤ 1048576) (hB : B ≤ w.heap.size) (h : LibA.IsBuffer T R 5 B b 0 (cellsOf f n) w) :
    Calls Tryd.prog 15 #[.pointer (some ⟨b, 0, none⟩)] w fun e w' => e = .returned (.tuple #[]) ∧ LibA.IsBuffer T R 5 B b 0 (cellsOf (padf n f) (pl n)) w' ∧ Below B w w' := by
  go_enter Tryd.func15, Tryd.ntmps15
  go_wp2
  go_loopg [] (pl n - n) (fun k wr => ∃ m : Nat, n + m + k = pl n ∧ LibA.IsBuffer T R 5 B b 0 (cellsOf (padf n f) (n + m)) wr ∧ Below B w wr)
  case atStart => exact ⟨0, by unfold pl; omega, by rw [Nat.add_zero, ← cellsOf_pad]; exact h, Below.refl _ _⟩
  case round =>
    obtain ⟨m, hm, hI, hb⟩ := hrel
    have hp : pl n ≤ n + 3 := by unfold pl; omega
    have hlen := cellsOf_length (padf n f) (n + m)
    by_cases hz : (n + m) % 4 = 0
    · have e : n + m = pl n := by unfold pl at *; omega
      have hz' : (((n : Int) + (m : Int)) % 4 != 0) = false := by simp; omega
      have E : Hid (n + m = pl n) := e
      clear e hz
      go_wp2_with (go_at_call 17; refine (Tryd.Buffer_Len_at T R B b 0 _ _ hI).mono ?_; rintro e w' ⟨rfl, q, rfl⟩)
      go_end0
      refine ⟨rfl, ?_, below_drewN hb q⟩
      rw [← E.out]
      exact hI.carry (fun _ _ => rfl)
    · have hlt : n + m < pl n := by unfold pl at *; omega
      have hz' : (((n : Int) + (m : Int)) % 4 != 0) = true := by simp; omega
      clear hz
      have hl2 : (cellsOf (padf n f) (n + m)).length + 1 ≤ 140737488355328 := by rw [hlen]; omega
      have hB2 : B ≤ wr.heap.size := Nat.le_trans hB hb.size
      go_wp2_with (first | (go_at_call 17; refine (Tryd.Buffer_Len_at T R B b 0 _ _ hI).mono ?_; rintro e w' ⟨rfl, q, rfl⟩) | (go_at_call 18; refine (Tryd.Buffer_WriteByte_at T R B b 0 (cellsOf (padf n f) (n + m)) 0 (wr.drewN q) (hI.carry (fun _ _ => rfl)) hB2 (cellsOf_one _ _) hl2).mono ?_; rintro e w2 ⟨rfl, hI2, hb2, _⟩))
      go_roundg (gk - 1)
      case measure => omega
      case rel =>
        refine ⟨m + 1, by omega, ?_, (below_drewN hb q).trans hb2⟩
        rw [cellsOf_snoc _ _ _ (by omega)] at hI2
        exact hI2

theorem zzPad_any (T : TypeId) (R : Nat → Option Value) (B b : Nat) (f : Nat → Int) (n : Nat) (w : World) (hn : n ≤ 1048576) (hB : B ≤ w.heap.size) (h : LibA.IsBuffer T R 5 B b 0 (cellsOf f n) w) :
    Calls Tryd.prog 11 #[.pointer (some ⟨b, 0, none⟩)] w fun e w' => e = .returned (.tuple #[]) ∧ LibA.IsBuffer T R 5 B b 0 (cellsOf (padf n f) (pl n)) w' ∧ Below B w w' := by
  go_enter Tryd.func11, Tryd.ntmps11
  go_wp2_with (go_at_call 15; refine (pad_any T R B b f n _ hn hB h).mono ?_; rintro e w' ⟨rfl, h1, h2⟩)
  go_end0
  exact ⟨rfl, h1, h2⟩

set_option maxHeartbeats 400000 in
/-- padRun: a copy of the bytes, zeros behind them up to the least multiple of 4; the inode is kept. -/
theorem padRun_any (a : Option Addr) (n c : Nat) (x : Int) (f : Nat → Int) (w : World) (hn : n ≤ 1000000) (ha : Hid (a = none → n = 0)) (hS : SlIs w a n f) :
    Calls Tryd.prog 7 #[.slice a n c, .int .i64 x] w fun e w' => ∃ a', e = .returned (.tuple #[.slice a' (pl n) (pl n), .bool true]) ∧ (a' = none → pl n = 0) ∧ SlIs w' a' (pl n) (padf n f) ∧ Below w.heap.size w w' := by
  have hp : pl n ≤ n + 3 := by unfold pl; omega
  go_enter Tryd.func7, Tryd.ntmps7
  go_wp2_with (first | (go_at_call 6; refine (clone_any a n c f w (by omega) ha.out hS).mono ?_; rintro e w1 ⟨a1, rfl, ho1, hb1⟩) | (go_at_call 10; refine (new_any a1 n x f w1 w.heap.size (by omega) hb1.size ho1).mono ?_; rintro e w2 ⟨b, rfl, hI2, hb2⟩))
  have hb3 : Below w.heap.size w w2 := hb1.trans (hb2.mono hb1.size)
  have hz2 : w.heap.size ≤ w2.heap.size := hb3.size
  clear hb1 hb2 ho1 hS
  go_wp2_with (first | (go_at_call 11; refine (zzPad_any 42 (rest x) w.heap.size b f n w2 (by omega) hz2 hI2).mono ?_; rintro e w3 ⟨rfl, hI3, hb4⟩) | (go_at_call 12; refine (archBytes_any 42 (rest x) w.heap.size b (padf n f) (pl n) w3 (by omega) hI3).mono ?_; rintro e w4 ⟨a4, c4, rfl, hn4, hS4, q, rfl⟩) | (go_at_call 6; refine (clone_any a4 (pl n) c4 (padf n f) (w3.drewN q) (by omega) hn4 hS4).mono ?_; rintro e w5 ⟨a5, rfl, ho5, hb5⟩) | (go_at_call 13; refine (archInode_any 42 x w.heap.size b (cellsOf (padf n f) (pl n)) w5 (hI3.carry (fun k hk => hb5.block k hk))).mono ?_; rintro e w6 ⟨rfl, rfl⟩))
  go_ret2
  have hz3 : w.heap.size ≤ w3.heap.size := Nat.le_trans hz2 hb4.size
  exact ⟨a5, rfl, ho5.nil, ho5.slis, (below_drewN (hb3.trans hb4) q).trans (hb5.mono hz3)⟩

end Go.Proofs.Qxb6619867aDoor.Pad
