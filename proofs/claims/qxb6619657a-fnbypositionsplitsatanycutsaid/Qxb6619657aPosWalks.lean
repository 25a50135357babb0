/-
  THE WALKS OF 'byPosition', 'ZZbyPosition' AND 'sameWords'.
-/
import Derived.Test.Qxb6619657aRows
import Derived.WalkKit
import Derived.WalkSpells
import Derived.RowKit3
import Derived.Below
import Derived.Deep.OwnRows
import Derived.WalkSmall
import Derived.Deep.QuietTactic
import Derived.BigQuiet
namespace Go.Proofs.Qxb6619657a.Pos
open Go.RowKit

theorem info3 : (Try.prog.info? 3).map (fun i => (i.zero, i.size, i.bytes)) = some (some (.int .i64 0), 1, 8) := by kernel_rfl
theorem info26 : (Try.prog.info? 26).map (fun i => (i.zero, i.size, i.bytes)) = some (some (.int .u64 0), 1, 8) := by kernel_rfl

/-- A slice of n numbers of kind k: where it has an element its cells lie in a block of w. -/
def SlIs (w : World) (k : IntKind) (a : Option Addr) (n : Nat) (f : Nat → Int) : Prop :=
  0 < n → ∃ b off, a = some ⟨b, off, none⟩ ∧ b < w.heap.size ∧ ∀ i, i < n → w.cell? ⟨b, off + i, none⟩ = some (.int k (f i))

/-- What 'byPosition' has written when k elements are done. -/
def got (os vs : Nat → Int) (k : Nat) : Nat → Value := fun i => .int .u64 (if i < k then vs (os i).toNat else 0)

theorem got_zero (os vs : Nat → Int) (i : Nat) : Value.int .u64 0 = got os vs 0 i := rfl
theorem got_next (os vs : Nat → Int) (k i : Nat) : (if i = k then .int .u64 (vs (os k).toNat) else got os vs k i) = got os vs (k + 1) i := by
  unfold got
  by_cases h : i = k
  · subst h; simp
  · rw [if_neg h]; congr 1; by_cases h2 : i < k
    · rw [if_pos h2, if_pos (by omega)]
    · rw [if_neg h2, if_neg (by omega)]

set_option maxHeartbeats 400000 in
theorem byPos (oa va : Option Addr) (oc vc n m : Nat) (w : World) (os vs : Nat → Int) (hn : n ≤ 65536) (hm : m ≤ 65536) (hO : SlIs w .i64 oa n os) (hV : SlIs w .u64 va m vs)
    (hin : ∀ i, i < n → 0 ≤ os i ∧ os i < m) :
    Calls Try.prog 13 #[.slice oa n oc, .slice va m vc] w fun e w' => e = .returned (.slice (some ⟨w.heap.size, 0, none⟩) n n) ∧ w'.rowIs w.heap.size 26 n (got os vs n) ∧ Below w.heap.size w w' ∧ w'.heap.size = w.heap.size + 1 := by
  have hmk := run_make_row' (P := Try.prog) 23 26 (.int .u64 0) 8 Try.underlying23 info26 rfl .i64 .i64 n (by omega) (by omega)
  go_enter Try.func13, Try.ntmps13
  go_wp2
  clear hmk
  go_loopw [13] (fun i wr => ∃ k : Nat, k ≤ n ∧ i = .int .i64 k ∧ wr.rowIs w.heap.size 26 n (got os vs k) ∧ Below w.heap.size w wr ∧ wr.heap.size = w.heap.size + 1) (fun i _ => n - (intOf i).toNat)
  case atStart => exact ⟨0, Nat.zero_le _, rfl, World.rowIs_made w (.int .u64 0) n 26, (Below.refl _ _).alloc (Nat.le_refl _) _, by simp⟩
  case round =>
    obtain ⟨k, hk, rfl, hrow, hb, hz⟩ := hrel
    by_cases hlt : k < n
    · obtain ⟨b, off, rfl, hb1, hc⟩ := hO (by omega)
      obtain ⟨i0, i1⟩ := hin k hlt
      obtain ⟨b', off', rfl, hb2, hc'⟩ := hV (by omega)
      have c1 : wr.cell? ⟨b, off + k, none⟩ = some (.int .i64 (os k)) := (hb.cell (by exact hb1)).trans (hc k hlt)
      have c2 : wr.cell? ⟨b', off' + (os k).toNat, none⟩ = some (.int .u64 (vs (os k).toNat)) := (hb.cell (by exact hb2)).trans (hc' _ (by omega))
      have c3 : wr.cell? ⟨w.heap.size, k, none⟩ = some (got os vs k k) := hrow.cell hlt
      have c4 : wr.frozen? ⟨w.heap.size, k, none⟩ = false := hrow.frozen k
      have R : (wr.setCell ⟨w.heap.size, k, none⟩ (.int .u64 (vs (os k).toNat))).rowIs w.heap.size 26 n (got os vs (k + 1)) := (hrow.set k _).congr (fun i _ => got_next os vs k i)
      clear hO hV hin hc hc' hrow
      go_wp2
      go_roundw
      case rel => exact ⟨k + 1, by omega, by go_num, R, hb.setCell (Nat.le_refl _) _, by simpa [World.setCell] using hz⟩
      case measure => simp [intOf]; omega
    · have e : k = n := by omega
      subst e
      clear hO hV hin
      go_wp2
      go_ret
      exact ⟨rfl, hrow, hb, hz⟩
theorem zzByPos (oa va : Option Addr) (oc vc n m : Nat) (w : World) (os vs : Nat → Int) (hn : n ≤ 65536) (hm : m ≤ 65536) (hO : SlIs w .i64 oa n os) (hV : SlIs w .u64 va m vs)
    (hin : ∀ i, i < n → 0 ≤ os i ∧ os i < m) :
    Calls Try.prog 8 #[.slice oa n oc, .slice va m vc] w fun e w' => e = .returned (.slice (some ⟨w.heap.size, 0, none⟩) n n) ∧ w'.rowIs w.heap.size 26 n (got os vs n) ∧ Below w.heap.size w w' ∧ w'.heap.size = w.heap.size + 1 := by
  go_enter Try.func8, Try.ntmps8
  go_wp2_with (go_at_call 13; refine (byPos oa va oc vc n m _ os vs hn hm hO hV hin).mono ?_; rintro e w' ⟨rfl, h1, h2, h3⟩)
  go_ret
  exact ⟨rfl, h1, h2, h3⟩

set_option maxHeartbeats 400000 in
theorem sameWords_yes (aa ba : Option Addr) (ac bc n : Nat) (w : World) (f : Nat → Int) (hn : n ≤ 65536) (hA : SlIs w .u64 aa n f) (hB : SlIs w .u64 ba n f) :
    Calls Try.prog 9 #[.slice aa n ac, .slice ba n bc] w fun e w' => e = .returned (.bool true) ∧ Below w.heap.size w w' := by
  go_enter Try.func9, Try.ntmps9
  go_wp2
  go_loopw [5] (fun i wr => ∃ k : Nat, k ≤ n ∧ i = .int .i64 k ∧ Below w.heap.size w wr) (fun i _ => n - (intOf i).toNat)
  case atStart => exact ⟨0, Nat.zero_le _, rfl, Below.refl _ _⟩
  case round =>
    obtain ⟨k, hk, rfl, hb⟩ := hrel
    by_cases hlt : k < n
    · obtain ⟨b, off, rfl, hb1, hc⟩ := hA (by omega)
      obtain ⟨b', off', rfl, hb2, hc'⟩ := hB (by omega)
      have c1 : wr.cell? ⟨b, off + k, none⟩ = some (.int .u64 (f k)) := (hb.cell (by exact hb1)).trans (hc k hlt)
      have c2 : wr.cell? ⟨b', off' + k, none⟩ = some (.int .u64 (f k)) := (hb.cell (by exact hb2)).trans (hc' k hlt)
      have i1 : (k : Int) < (n : Int) := by omega
      clear hA hB hc hc'
      go_wp2
      go_quiet (fail)
      go_wp2
      go_roundw
      case rel => exact ⟨k + 1, by omega, by go_num, below_drewN hb _⟩
      case measure => simp [intOf]; omega
    · have e : k = n := by omega
      subst e
      clear hA hB
      go_wp2
      go_ret
      exact ⟨rfl, hb⟩

end Go.Proofs.Qxb6619657a.Pos
