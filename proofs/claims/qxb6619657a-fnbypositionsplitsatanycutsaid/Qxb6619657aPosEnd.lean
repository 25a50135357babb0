/-
  'FnByPositionSplitsAtAnyCut', EVERY INPUT: out of the main walk and the early returns.
-/
import Derived.Test.Qxb6619657aPosLaw
namespace Go.Proofs.Qxb6619657a.Pos
open Go.RowKit

theorem block_lt {w : World} {a : Addr} {v : Value} (h : w.cell? a = some v) : a.block < w.heap.size := by
  by_cases hb : a.block < w.heap.size
  · exact hb
  · have e : w.heap[a.block]? = none := Array.getElem?_eq_none (by omega)
    simp [World.cell?, e] at h

theorem slis_of {w : World} {k : IntKind} {a : Option Addr} {len cap : Nat} {zs : List Int}
    (h : (a = none ∧ len = 0 ∧ cap = 0 ∧ zs = []) ∨ ∃ x, a = some x ∧ len ≤ cap ∧ cap ≤ maxLen ∧ zs.length = cap ∧ (∀ i, i < zs.length → w.cell? (x.add i) = some (.int k (zs.getD i 0))) ∧ ∀ n ∈ zs, (Lit.int k n).wf = true) :
    SlIs w k a len (fun i => zs.getD i 0) ∧ (a = none → len = 0 ∧ cap = 0) ∧ len ≤ maxLen := by
  rcases h with ⟨rfl, rfl, rfl, rfl⟩ | ⟨x, rfl, hl, hm, hz, hcell, _⟩
  · exact ⟨fun h => absurd h (by omega), fun _ => ⟨rfl, rfl⟩, Nat.zero_le _⟩
  · refine ⟨fun hn => ?_, (fun h => by cases h), Nat.le_trans hl hm⟩
    obtain ⟨b, off, spot⟩ := x
    have hc := hcell 0 (by omega)
    have hspot : spot = none := by simpa [Addr.add] using World.cell?_spot hc
    subst hspot
    refine ⟨b, off, rfl, by simpa [Addr.add] using block_lt hc, fun i hi => ?_⟩
    have := hcell i (by omega)
    rwa [Addr.add_lit] at this

set_option maxRecDepth 20000 in
set_option maxHeartbeats 1000000 in
theorem law_early (a0 a1 : Option Addr) (n c0 m c1 : Nat) (c : Int) (w : World) (hn : n ≤ maxLen) (hm : m ≤ maxLen) (h : 65536 < n ∨ 65536 < m ∨ c < 0 ∨ (n : Int) < c) :
    Calls Try.prog 3 #[.slice a0 n c0, .slice a1 m c1, .int .i64 c] w fun e w' => e = .returned (.bool true) ∧ Below w.heap.size w w' := by
  unfold maxLen at hn hm
  rcases (by omega : 65536 < n ∨ (¬ 65536 < n ∧ 65536 < m) ∨ (¬ 65536 < n ∧ ¬ 65536 < m ∧ c < 0) ∨ (¬ 65536 < n ∧ ¬ 65536 < m ∧ ¬ c < 0 ∧ (n : Int) < c)) with g | ⟨g, g2⟩ | ⟨g, g2, g3⟩ | ⟨g, g2, g3, g4⟩
  all_goals
    clear h
    go_enter Try.func3, Try.ntmps3
    go_wp2_with (go_at_call 7; refine (bytes_any _ _ _ _ _ _ _ _ ?_ ?_).mono ?_; omega; omega; rintro e w' ⟨⟨b, rfl⟩, rfl⟩)
    all_goals (go_ret; exact ⟨rfl, Below.refl _ _⟩)

theorem law (a0 a1 : Option Addr) (n c0 m c1 : Nat) (z0 z1 : List Int) (c : Int) (w : World)
    (h0 : (a0 = none ∧ n = 0 ∧ c0 = 0 ∧ z0 = []) ∨ ∃ x, a0 = some x ∧ n ≤ c0 ∧ c0 ≤ maxLen ∧ z0.length = c0 ∧ (∀ i, i < z0.length → w.cell? (x.add i) = some (.int .i64 (z0.getD i 0))) ∧ ∀ n ∈ z0, (Lit.int .i64 n).wf = true)
    (h1 : (a1 = none ∧ m = 0 ∧ c1 = 0 ∧ z1 = []) ∨ ∃ x, a1 = some x ∧ m ≤ c1 ∧ c1 ≤ maxLen ∧ z1.length = c1 ∧ (∀ i, i < z1.length → w.cell? (x.add i) = some (.int .u64 (z1.getD i 0))) ∧ ∀ n ∈ z1, (Lit.int .u64 n).wf = true) :
    Calls Try.prog 3 #[.slice a0 n c0, .slice a1 m c1, .int .i64 c] w fun e w' => e = .returned (.bool true) ∧ Below w.heap.size w w' := by
  obtain ⟨s0, e0, m0⟩ := slis_of h0
  obtain ⟨s1, e1, m1⟩ := slis_of h1
  by_cases h : 65536 < n ∨ 65536 < m ∨ c < 0 ∨ (n : Int) < c
  · exact law_early a0 a1 n c0 m c1 c w m0 m1 h
  · obtain ⟨d, rfl⟩ := Int.eq_ofNat_of_zero_le (a := c) (by omega)
    obtain ⟨r, rfl⟩ : ∃ r, n = d + r := ⟨n - d, by omega⟩
    exact law_main a0 a1 r c0 m c1 d w _ _ (by omega) (by omega) (fun h => by have := e0 h; omega) e1 s0 s1

end Go.Proofs.Qxb6619657a.Pos
