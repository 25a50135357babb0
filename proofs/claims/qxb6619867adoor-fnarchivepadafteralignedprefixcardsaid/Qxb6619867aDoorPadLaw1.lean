/-
  THE WALK OF 'FnArchivePadIsLeastAlignedAndIdempotent'.
-/
import Derived.Test.Qxb6619867aDoorPadRun
namespace Go.Proofs.Qxb6619867aDoor.Pad
open Go.RowKit

theorem bytes1_any (a0 : Option Addr) (n c0 : Nat) (x : Int) (w : World) (hn : n ≤ 9223372036854775807) :
    Calls Tryd.prog 5 #[.slice a0 n c0, .int .i64 x] w fun e w' => (∃ b, e = .returned (.bool b)) ∧ w = w' := by
  go_enter Tryd.func5, Tryd.ntmps5
  go_wp2
  all_goals (go_ret; exact ⟨⟨_, rfl⟩, rfl⟩)

theorem bytes1_yes (a0 : Option Addr) (n c0 : Nat) (x : Int) (w : World) (hn : n ≤ 65536) :
    Calls Tryd.prog 5 #[.slice a0 n c0, .int .i64 x] w fun e w' => e = .returned (.bool true) ∧ w = w' := by
  go_enter Tryd.func5, Tryd.ntmps5
  go_wp2
  go_ret
  exact ⟨rfl, rfl⟩

theorem pl_facts (n : Nat) : n ≤ pl n ∧ pl n % 4 = 0 ∧ pl n < n + 4 ∧ pl (pl n) = pl n := by
  unfold pl; omega
theorem padf_padf (n P : Nat) (f : Nat → Int) (i : Nat) (hi : i < P) : padf P (padf n f) i = padf n f i := by
  show (if i < P then padf n f i else 0) = padf n f i
  rw [if_pos hi]
theorem padf_in (n : Nat) (f : Nat → Int) (i : Nat) (hi : i < n) : padf n f i = f i := by unfold padf; rw [if_pos hi]
theorem padf_out (n : Nat) (f : Nat → Int) (i : Nat) (hi : n ≤ i) : padf n f i = 0 := by unfold padf; rw [if_neg (by omega)]

set_option maxRecDepth 20000 in
set_option maxHeartbeats 1000000 in
theorem law1_main (a0 : Option Addr) (n c0 : Nat) (x : Int) (f : Nat → Int) (w : World) (hn : n ≤ 65536) (ha : Hid (a0 = none → n = 0)) (hS : SlIs w a0 n f) :
    Calls Tryd.prog 3 #[.slice a0 n c0, .int .i64 x] w fun e w' => e = .returned (.bool true) ∧ Below w.heap.size w w' := by
  obtain ⟨p1, p2, p3, p4⟩ := pl_facts n
  have hz : (((pl n : Nat) : Int) % 4 != 0) = false := by simp; omega
  have P4 : Hid (pl (pl n) = pl n) := p4
  clear p4
  go_enter Tryd.func3, Tryd.ntmps3
  go_wp2_with (go_at_call 5; refine (bytes1_yes _ _ _ _ _ hn).mono ?_; rintro e w' ⟨rfl, rfl⟩)
  refine (clone_any a0 n c0 f w (by omega) ha.out hS).mono ?_
  rintro e w1 ⟨a1, rfl, ho1, hb1⟩
  go_wp2_with fail
  refine (clone_any a1 n n f w1 (by omega) ho1.nil ho1.slis).mono ?_
  rintro e w2 ⟨a2, rfl, ho2, hb2⟩
  go_wp2_with fail
  refine (padRun_any a1 n n x f w2 (by omega) ho1.nil (ho1.slis.below hb2)).mono ?_
  rintro e w3 ⟨a3, rfl, hn3, hS3, hb3⟩
  go_wp2_with fail
  have hW3 : SlIs w3 a2 n f := ho2.slis.below hb3
  have hb : Below w.heap.size w w3 := (hb1.trans (hb2.mono hb1.size)).trans (hb3.mono (Nat.le_trans hb1.size hb2.size))
  have hsz : w.heap.size ≤ w3.heap.size := hb.size
  have HN3 : Hid (a3 = none → pl n = 0) := hn3
  clear ho1 ho2 hb1 hb2 hb3 hS hn3
  go_loopw [9] (fun i wr => ∃ k : Nat, k ≤ n ∧ i = .int .i64 k ∧ Below w3.heap.size w3 wr) (fun i _ => n - (intOf i).toNat)
  case atStart => exact ⟨0, Nat.zero_le _, rfl, Below.refl _ _⟩
  case round =>
    obtain ⟨k, hk, rfl, hbr⟩ := hrel
    by_cases hlt : k < n
    · obtain ⟨b, off, rfl, hb1, hc⟩ := hS3 (by omega)
      obtain ⟨b', off', rfl, hb2, hc'⟩ := hW3 (by omega)
      have c1 : wr.cell? ⟨b, off + k, none⟩ = some (.int .u8 (f k)) := (hbr.cell (by exact hb1)).trans ((hc k (by omega)).trans (by rw [padf_in _ _ _ hlt]))
      have c2 : wr.cell? ⟨b', off' + k, none⟩ = some (.int .u8 (f k)) := (hbr.cell (by exact hb2)).trans (hc' k hlt)
      have i1 : (k : Int) < (n : Int) := by omega
      have i2 : (k : Int) < (pl n : Int) := by omega
      clear hS3 hW3 hc hc' hb p2 hz
      go_wp2
      go_quiet (fail)
      go_wp2
      go_roundw
      case rel => exact ⟨k + 1, by omega, by go_num, below_drewN hbr _⟩
      case measure => simp [intOf]; omega
    · have e : k = n := by omega
      subst e
      have hS4 := hS3.below hbr
      have hb4 : Below w.heap.size w wr := hb.trans (hbr.mono hsz)
      have hsz4 : w.heap.size ≤ wr.heap.size := hb4.size
      clear hS3 hW3 hb hbr
      go_wp2
      generalize wr = w4 at *
      go_loop [10] (fun i => ∃ l : Nat, k ≤ l ∧ l ≤ pl k ∧ i = .int .i64 l) (fun i => pl k - (intOf i).toNat)
      case atStart => exact ⟨k, by omega, by omega, rfl⟩
      case round =>
        obtain ⟨l, hl, hl2, rfl⟩ := hrel
        by_cases hlt : l < pl k
        · obtain ⟨b, off, rfl, hb1, hc⟩ := hS4 (by omega)
          have c1 : w4.cell? ⟨b, off + l, none⟩ = some (.int .u8 0) := (hc l hlt).trans (by rw [padf_out _ _ _ hl])
          clear hc hS4 hb4 p2 hz
          go_wp2
          go_round
          case rel => exact ⟨l + 1, by omega, by omega, by go_num⟩
          case measure => simp [intOf]; omega
        · have e : l = pl k := by omega
          subst e
          go_wp2_with fail
          refine (padRun_any a3 (pl k) (pl k) x (padf k f) w4 (by omega) HN3 hS4).mono ?_
          rintro e w5 ⟨a5, rfl, hn5, hS5, hb5⟩
          rw [P4.out] at hn5 hS5
          rw [P4.out]
          have hS6 := hS4.below hb5
          have hS5' : SlIs w5 a5 (pl k) (padf k f) := hS5.congr (fun i hi => padf_padf k (pl k) f i hi)
          have hb6 : Below w.heap.size w w5 := hb4.trans (hb5.mono hsz4)
          have hsz6 : w.heap.size ≤ w5.heap.size := hb6.size
          clear hS5 hS4 hb4 hb5 hn5 p2 hz
          go_wp2_with fail
          refine (equal_yes a3 a5 (pl k) (pl k) (pl k) w5 (padf k f) (by omega) hS6 hS5').mono ?_
          rintro e w7 ⟨rfl, b7⟩
          go_wp2
          go_ret
          exact ⟨rfl, hb6.trans (b7.mono hsz6)⟩

end Go.Proofs.Qxb6619867aDoor.Pad
