/-
  THE WALK OF 'decimalOf': the decimal numeral, written by hand.
-/
import Derived.Test.Qxb6621633aFmtTtlFacts
import Derived.Lib.ItoaMem
import Derived.Deep.OwnRows
import Derived.Deep.LoopGhost
namespace Go.Proofs.Qxb6621633aFmt.Ttl
open Go.RowKit

/-- The twenty cells when the places from i on are written. -/
def dgs (u i : Nat) : Nat → Value := fun p => if i ≤ p then .int .u8 ((48 + u / 10 ^ (19 - p) % 10 : Nat) : Int) else .int .u8 0

theorem dgs_next (u j : Nat) (p : Nat) (v : Nat) (hv : v = u / 10 ^ (19 - j)) : (if p = j then .int .u8 (48 + (v : Int) % 10) else dgs u (j + 1) p) = dgs u j p := by
  unfold dgs
  by_cases h : p = j
  · subst h
    rw [if_pos rfl, if_pos (Nat.le_refl _), hv]
    congr 1
  · rw [if_neg h]
    by_cases h2 : j + 1 ≤ p
    · rw [if_pos h2, if_pos (by omega)]
    · rw [if_neg h2, if_neg (by omega)]

theorem digits_done (u j : Nat) (hj : j ≤ 19) (hlt : u < 10 ^ (20 - j)) (hge : j = 19 ∨ 10 ^ (19 - j) ≤ u) : Lib.nDigits u = 20 - j := by
  rcases hge with rfl | h
  · exact Lib.nDigits_small (by simpa using hlt)
  · have := Lib.nDigits_unique (19 - j) u h (by rw [show 19 - j + 1 = 20 - j by omega]; exact hlt)
    omega

theorem dig_at (u j q : Nat) (hn : Lib.nDigits u = 20 - j) (hq : q < (Lib.decDigits u).length) : ((Lib.decDigits u)[q].toNat : Int) = ((48 + u / 10 ^ (19 - (j + q)) % 10 : Nat) : Int) := by
  have e : (Lib.decDigits u)[q] = Lib.dg u (Lib.nDigits u - 1 - q) := by
    simp only [Lib.decDigits_eq u, List.getElem_map, List.getElem_range]
  rw [e, hn]
  unfold Lib.dg
  rw [show 20 - j - 1 - q = 19 - (j + q) by omega]
  have : 48 + u / 10 ^ (19 - (j + q)) % 10 < 256 := by omega
  simp [UInt8.toNat_ofNat, Nat.mod_eq_of_lt this]

set_option maxHeartbeats 1000000 in
theorem dec_any (u : Nat) (hu : u < 18446744073709551616) (w : World) :
    Calls Tryf.prog 9 #[.int .u64 u] w fun e w' => e = .returned (.string ⟨(Lib.decDigits u).toArray⟩) ∧ Below w.heap.size w w' := by
  go_enter Tryf.func9, Tryf.ntmps9
  go_wp2
  go_loopw [0, 4] (fun s0 s4 wr => ∃ i v : Nat, 1 ≤ i ∧ i ≤ 20 ∧ s0 = .int .u64 v ∧ s4 = .int .i64 i ∧ Hid (v = u / 10 ^ (20 - i)) ∧ Hid (i = 20 ∨ v ≠ 0) ∧ wr.rowIs w.heap.size 37 20 (dgs u i) ∧ Below w.heap.size w wr) (fun _ s4 _ => (intOf s4).toNat)
  case atStart =>
    refine ⟨20, u, by decide, by decide, rfl, rfl, ?_, Or.inl rfl, ?_, (Below.refl _ _).alloc (Nat.le_refl _) _⟩
    · show u = u / 10 ^ (20 - 20); simp
    · refine (World.rowIs_alloc w _ 37 (fun _ => .int .u8 0) (fun i hi => ?_)).congr (fun i hi => ?_)
      · match i, hi with
        | 0, _ | 1, _ | 2, _ | 3, _ | 4, _ | 5, _ | 6, _ | 7, _ | 8, _ | 9, _ | 10, _ | 11, _ | 12, _ | 13, _ | 14, _ | 15, _ | 16, _ | 17, _ | 18, _ | 19, _ => rfl
        | k + 20, h => exact absurd h (by simp)
      · have hi' : i < 20 := by simpa using hi
        unfold dgs
        rw [if_neg (by omega)]
  case round =>
    obtain ⟨i, v, h1, h2, rfl, rfl, hv, hne, hrow, hb⟩ := hrel
    obtain ⟨j, rfl⟩ : ∃ j, i = j + 1 := ⟨i - 1, by omega⟩
    have c1 : wr.cell? ⟨w.heap.size, j, none⟩ = some (dgs u (j + 1) j) := hrow.cell (by omega)
    have c2 : wr.frozen? ⟨w.heap.size, j, none⟩ = false := hrow.frozen j
    have i1 : (j : Int) < 20 := by omega
    have i2 : (0 : Int) ≤ (j : Int) := by omega
    have hvu : v ≤ u := by rw [hv.out]; exact Nat.div_le_self _ _
    have i3 : (v : Int) ≤ 18446744073709551615 := by omega
    have e19 : 20 - (j + 1) = 19 - j := by omega
    have hv' : v = u / 10 ^ (19 - j) := by rw [← e19]; exact hv.out
    have R : (wr.setCell ⟨w.heap.size, j, none⟩ (.int .u8 (48 + (v : Int) % 10))).rowIs w.heap.size 37 20 (dgs u j) := (hrow.set j _).congr (fun p _ => dgs_next u j p v hv')
    have hb2 : Below w.heap.size w (wr.setCell ⟨w.heap.size, j, none⟩ (.int .u8 (48 + (v : Int) % 10))) := hb.setCell (p := ⟨w.heap.size, j, none⟩) (Nat.le_refl _) _
    have hdiv : v / 10 = u / 10 ^ (20 - j) := by rw [hv', Nat.div_div_eq_div_mul, ← Nat.pow_succ, show (19 - j).succ = 20 - j by omega]
    have HV : Hid (v / 10 = u / 10 ^ (20 - j)) := hdiv
    have HV' : Hid (v = u / 10 ^ (19 - j)) := hv'
    clear hv hv' e19 hdiv hrow
    by_cases hz : v / 10 = 0
    · have hz' : ((v : Int) / 10 == 0) = true := by simp; omega
      have hlt : u < 10 ^ (20 - j) := by
        have h := HV.out
        rw [hz] at h
        exact (Nat.div_eq_zero_iff.1 h.symm).resolve_left (by have := Nat.pow_pos (n := 20 - j) (show 0 < 10 by decide); omega)
      have hnd := digits_done u j (by omega) hlt (by
        rcases hne.out with h | h
        · exact Or.inl (by omega)
        · right
          by_cases g : 10 ^ (19 - j) ≤ u
          · exact g
          · exact absurd (HV'.out.trans (Nat.div_eq_of_lt (by omega))) h)
      have hsl : ∀ W, (Instr.sliceAt 37 (.pointer (some ⟨w.heap.size, 0, none⟩)) (some (.int .i64 (j : Int))) none none).run Tryf.prog W = .ok (.slice (some ⟨w.heap.size, j, none⟩) (20 - j) (20 - j)) W := fun W => by
        have hal : Tryf.prog.arrayLen 37 = 20 := by kernel_rfl
        rw [run_sliceAt_array_l W 37 ⟨w.heap.size, 0, none⟩ (by kernel_rfl) .i64 (j : Int) (by omega) (by rw [hal]; omega)]
        have hz : ∀ w, (sizeOf (Tryf.prog.elem 37)).run Tryf.prog w = .ok 1 w := fun w => by kernel_rfl
        rw [hz]
        simp [slicedAt, hal, Result.andThen, Lib.add_plain]
        omega
      have hcv : (convert 38 9 (.slice (some ⟨w.heap.size, j, none⟩) (20 - j) (20 - j))).run Tryf.prog (wr.setCell ⟨w.heap.size, j, none⟩ (.int .u8 (48 + (v : Int) % 10))) = .ok (.string ⟨(Lib.decDigits u).toArray⟩) (wr.setCell ⟨w.heap.size, j, none⟩ (.int .u8 (48 + (v : Int) % 10))) := by
        have h := run_convert_bytes_back (P := Tryf.prog) (wr.setCell ⟨w.heap.size, j, none⟩ (.int .u8 (48 + (v : Int) % 10))) 38 9 5 ⟨w.heap.size, j, none⟩ (20 - j) (Lib.decDigits u) Tryf.underlying38 Tryf.underlying5 Tryf.underlying9 (fun q hq => by
          have hq' : q < 20 - j := by rw [Lib.decDigits_length, hnd] at hq; exact hq
          rw [Lib.add_plain, R.cell (by omega), dig_at u j q hnd hq]
          unfold dgs
          rw [if_pos (by omega)])
        rw [Lib.decDigits_length, hnd] at h
        exact h
      clear hz hlt hnd R
      go_wp2
      go_ret
      exact ⟨rfl, hb2⟩
    · have hz' : ((v : Int) / 10 == 0) = false := by simp; omega
      have hj1 : 1 ≤ j := by
        by_cases g : j = 0
        · subst g
          exfalso
          apply hz
          rw [HV.out]
          exact Nat.div_eq_of_lt (by have : (10 : Nat) ^ (20 - 0) = 100000000000000000000 := rfl; omega)
        · omega
      have HZ : Hid (j = 20 ∨ v / 10 ≠ 0) := Or.inr hz
      clear hz
      go_wp2
      go_roundw
      case rel => exact ⟨j, v / 10, hj1, by omega, by go_num, rfl, HV, HZ, R, hb2⟩
      case measure => simp [intOf]

end Go.Proofs.Qxb6621633aFmt.Ttl
