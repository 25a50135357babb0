/-
  THE WALK OF 'FnSetTTLLastAcceptedWins'.
-/
import Derived.Test.Qxb6621633aFmtTtlFacts
import Derived.Deep.QuietTactic
import Derived.BigQuiet
import Derived.Deep.DeepCutAuto
namespace Go.Proofs.Qxb6621633aFmt.Ttl
open Go.RowKit Go.Extern.Stop Go.Stop Go.Extern

/-- What the cell holds behind the first k values. -/
def lst (old : Int) (f : Nat → Int) : Nat → Int
  | 0 => old
  | k + 1 => if okB (f k) = true then f k else lst old f k
theorem lst_yes (old : Int) (f : Nat → Int) (k : Nat) (h : okB (f k) = true) : lst old f (k + 1) = f k := by rw [lst, if_pos h]
theorem lst_no (old : Int) (f : Nat → Int) (k : Nat) (h : okB (f k) = false) : lst old f (k + 1) = lst old f k := by rw [lst, if_neg (by rw [h]; decide)]
theorem lst_tail (old : Int) (f : Nat → Int) (j : Nat) : ∀ d, (∀ i, j ≤ i → i < j + d → okB (f i) = false) → lst old f (j + d) = lst old f j
  | 0, _ => rfl
  | d + 1, h => by
    rw [← Nat.add_assoc, lst_no old f (j + d) (h _ (by omega) (by omega))]
    exact lst_tail old f j d (fun i h1 h2 => h i h1 (by omega))
theorem lst_from {old : Int} {f : Nat → Int} {j n : Nat} (hj : j ≤ n) (h : ∀ i, j ≤ i → i < n → okB (f i) = false) : lst old f n = lst old f j := by
  obtain ⟨d, rfl⟩ : ∃ d, n = j + d := ⟨n - j, by omega⟩
  exact lst_tail old f j d h

theorem worth_is (n : Int) (w : World) (h0 : 0 ≤ n) (h1 : n ≤ 18446744073709551615) :
    Calls Tryf.prog 7 #[.int .u64 n] w fun e w' => e = .returned (.bool (okB n)) ∧ w = w' :=
  (worth_any n w h0 h1).mono fun _ _ ⟨he, hw⟩ => ⟨he, hw.symm⟩

theorem bytes_any (p a : Option Addr) (n c : Nat) (w : World) (hn : n ≤ 9223372036854775807) :
    Calls Tryf.prog 5 #[.pointer p, .slice a n c] w fun e w' => (∃ b, e = .returned (.bool b)) ∧ w = w' := by
  go_enter Tryf.func5, Tryf.ntmps5
  go_wp2
  all_goals (go_ret; exact ⟨⟨_, rfl⟩, rfl⟩)

theorem bytes_yes (p a : Option Addr) (n c : Nat) (w : World) (hn : n ≤ 65536) :
    Calls Tryf.prog 5 #[.pointer p, .slice a n c] w fun e w' => e = .returned (.bool true) ∧ w = w' := by
  go_enter Tryf.func5, Tryf.ntmps5
  go_wp2
  go_ret
  exact ⟨rfl, rfl⟩

/-- A slice of n numbers: where it has an element its cells lie in a block of w. -/
def SlIs (w : World) (a : Option Addr) (n : Nat) (f : Nat → Int) : Prop :=
  0 < n → ∃ b off, a = some ⟨b, off, none⟩ ∧ b < w.heap.size ∧ ∀ i, i < n → w.cell? ⟨b, off + i, none⟩ = some (.int .u64 (f i))

set_option maxRecDepth 20000 in
set_option maxHeartbeats 1000000 in
theorem last_main (F : Interp) (pb po : Nat) (old : Int) (a : Option Addr) (n c : Nat) (f : Nat → Int) (w : World) (hF : F.answers w.tape) (hn : n ≤ 65536)
    (hp : w.cell? ⟨pb, po, none⟩ = some (.int .u32 old)) (hS : SlIs w a n f) (hr : Hid (∀ i, 0 ≤ f i ∧ f i ≤ 18446744073709551615)) :
    Calls Tryf.prog 3 #[.pointer (some ⟨pb, po, none⟩), .slice a n c] w fun e w' => e = .returned (.bool true) ∧ Below w.heap.size w w' := by
  have HF : Hid (F.answers w.tape) := hF
  clear hF
  go_enter Tryf.func3, Tryf.ntmps3
  go_wp2_with (go_at_call 5; refine (bytes_yes _ _ _ _ _ hn).mono ?_; rintro e w' ⟨rfl, rfl⟩)
  go_loopw [8, 9] (fun s8 i wr => ∃ k : Nat, k ≤ n ∧ s8 = .bool true ∧ i = .int .i64 k ∧ wr.cell? ⟨w.heap.size, 0, none⟩ = some (.int .u32 (lst old f k)) ∧ wr.frozen? ⟨w.heap.size, 0, none⟩ = false ∧ Below w.heap.size w wr ∧ w.heap.size < wr.heap.size) (fun _ i _ => n - (intOf i).toNat)
  case atStart => exact ⟨0, Nat.zero_le _, rfl, rfl, by simp [lst], by simp, (Below.refl _ _).alloc (Nat.le_refl _) _, by simp⟩
  case round =>
    obtain ⟨k, hk, rfl, rfl, hcell, hfz, hb, hz⟩ := hrel
    by_cases hlt : k < n
    · obtain ⟨b, off, rfl, hb1, hc⟩ := hS (by omega)
      have c1 : wr.cell? ⟨b, off + k, none⟩ = some (.int .u64 (f k)) := (hb.cell (by exact hb1)).trans (hc k hlt)
      obtain ⟨r0, r1⟩ := hr.out k
      have i1 : (k : Int) < (n : Int) := by omega
      clear hS hc hp
      by_cases hok : okB (f k) = true
      · have hl := lst_yes old f k hok
        go_wp2_with (go_at_call 6; refine (zzSet_at w.heap.size 0 _ (f k) wr hok hcell hfz).mono ?_; rintro e w1 ⟨rfl, d1, d2, d3⟩)
        have c2 : w1.cell? ⟨b, off + k, none⟩ = some (.int .u64 (f k)) := (d3.cell (by exact hb1)).trans c1
        clear c1 hcell hfz
        go_quiet ((go_at_call 7; exact Calls.quiet_of_same (worth_any _ _ r0 r1)))
        go_wp2
        go_roundw
        case rel => exact ⟨k + 1, by omega, rfl, by go_num, by rw [hl]; exact d1, d2, below_drewN (hb.trans d3) _, Nat.lt_of_lt_of_le hz d3.size⟩
        case measure => simp [intOf]; omega
      · have hok' : okB (f k) = false := by simpa using hok
        have hl := lst_no old f k hok'
        clear hok
        have hF1 : F.answers wr.tape := by rw [hb.tape]; exact HF.out
        have HF1 : Hid (F.answers wr.tape) := hF1
        clear hF1
        go_wp2_with (go_at_call 6; refine (zzSet_no F (some ⟨w.heap.size, 0, none⟩) (f k) wr HF1.out hok').mono ?_; rintro e w1 ⟨⟨ae, rfl⟩, d3⟩)
        have c2 : w1.cell? ⟨b, off + k, none⟩ = some (.int .u64 (f k)) := (d3.cell (Nat.lt_trans hb1 hz)).trans c1
        have d1 : w1.cell? ⟨w.heap.size, 0, none⟩ = some (.int .u32 (lst old f k)) := (d3.cell (by exact hz)).trans hcell
        have d2 : w1.frozen? ⟨w.heap.size, 0, none⟩ = false := (d3.frozen (by exact hz)).trans hfz
        clear c1 hcell hfz
        go_quiet ((go_at_call 7; exact Calls.quiet_of_same (worth_any _ _ r0 r1)))
        go_wp2
        go_roundw
        case rel => exact ⟨k + 1, by omega, rfl, by go_num, by rw [hl]; exact d1, d2, below_drewN (hb.trans (d3.mono (Nat.le_of_lt hz))) _, Nat.lt_of_lt_of_le hz d3.size⟩
        case measure => simp [intOf]; omega
    · have e : k = n := by omega
      subst e
      go_wp2
      have hS' : SlIs wr a k f := by
        intro h0
        obtain ⟨b, off, e, hb1, hc⟩ := hS h0
        exact ⟨b, off, e, Nat.lt_of_lt_of_le hb1 hb.size, fun i hi => (hb.cell (by exact hb1)).trans (hc i hi)⟩
      clear hS hp hk hlt hfz
      go_loop [11, 12] (fun s11 s12 => ∃ j : Nat, j ≤ k ∧ s12 = .int .i64 j ∧ s11 = .int .u32 old ∧ Hid (∀ i, j ≤ i → i < k → okB (f i) = false)) (fun _ s12 => (intOf s12).toNat)
      case atStart => exact ⟨k, Nat.le_refl _, rfl, rfl, fun i h1 h2 => absurd h1 (by omega)⟩
      case round =>
        obtain ⟨j, hj, rfl, rfl, hno⟩ := hrel
        match j, hj, hno with
        | 0, _, hno =>
          have e0 : lst old f k = old := (lst_from (Nat.zero_le _) hno.out).trans rfl
          have hq : (lst old f k == old) = true := by rw [e0]; simp
          clear e0 hS'
          go_wp2
          go_ret
          exact ⟨rfl, hb⟩
        | m + 1, hj, hno =>
          obtain ⟨b, off, rfl, hb1, hc⟩ := hS' (by omega)
          have c1 := hc m (by omega)
          obtain ⟨r0, r1⟩ := hr.out m
          have i1 : (m : Int) < (k : Int) := by omega
          have i2 : (0 : Int) ≤ (m : Int) := by omega
          have i3 : (m : Int) ≤ 65536 := by omega
          clear hc hS'
          by_cases hok : okB (f m) = true
          · have e0 : lst old f k = f m := (lst_from hj hno.out).trans (lst_yes old f m hok)
            have hq : (lst old f k == f m) = true := by rw [e0]; simp
            obtain ⟨g1, g2⟩ := okB_yes hok
            clear e0
            go_wp2_with (go_at_call 7; refine (worth_is _ _ r0 r1).mono ?_; rintro e w' ⟨rfl, rfl⟩)
            go_ret
            exact ⟨rfl, hb⟩
          · have hok' : okB (f m) = false := by simpa using hok
            clear hok
            go_wp2_with (go_at_call 7; refine (worth_is _ _ r0 r1).mono ?_; rintro e w' ⟨rfl, rfl⟩)
            go_round
            case rel =>
              refine ⟨m, by omega, by go_num, rfl, fun i h1 h2 => ?_⟩
              by_cases e : i = m
              · subst e; exact hok'
              · exact hno.out i (by omega) h2
            case measure => simp [intOf]
end Go.Proofs.Qxb6621633aFmt.Ttl
