/-
  'FnArchivePadIsLeastAlignedAndIdempotent', EVERY INPUT.
-/
import Derived.Test.Qxb6619867aDoorPadLaw1
namespace Go.Proofs.Qxb6619867aDoor.Pad
open Go.RowKit

/-- What a walk is told of a slice of bytes that came in. -/
def IsRow (w : World) (a : Option Addr) (len cap : Nat) (zs : List Int) : Prop :=
  (a = none ∧ len = 0 ∧ cap = 0 ∧ zs = []) ∨
  ∃ x, a = some x ∧ len ≤ cap ∧ cap ≤ maxLen ∧ zs.length = cap ∧ (∀ i, i < zs.length → w.cell? (x.add i) = some (.int .u8 (zs.getD i 0))) ∧ ∀ n ∈ zs, (Lit.int .u8 n).wf = true

theorem slis_of {w : World} {a : Option Addr} {len cap : Nat} {zs : List Int} (h : IsRow w a len cap zs) :
    SlIs w a len (fun i => zs.getD i 0) ∧ (a = none → len = 0) ∧ len ≤ maxLen := by
  rcases h with ⟨rfl, rfl, rfl, rfl⟩ | ⟨x, rfl, hl, hm, hz, hcell, _⟩
  · exact ⟨fun h => absurd h (by omega), fun _ => rfl, Nat.zero_le _⟩
  · refine ⟨fun hn => ?_, (fun h => by cases h), Nat.le_trans hl hm⟩
    obtain ⟨b, off, spot⟩ := x
    have hc := hcell 0 (by omega)
    have hspot : spot = none := by simpa [Addr.add] using World.cell?_spot hc
    subst hspot
    refine ⟨b, off, rfl, by simpa [Addr.add] using block_lt_of_cell hc, fun i hi => ?_⟩
    have := hcell i (by omega)
    rwa [Addr.add_lit] at this

theorem law1_early (a0 : Option Addr) (n c0 : Nat) (x : Int) (w : World) (hn : n ≤ maxLen) (h : 65536 < n) :
    Calls Tryd.prog 3 #[.slice a0 n c0, .int .i64 x] w fun e w' => e = .returned (.bool true) ∧ Below w.heap.size w w' := by
  unfold maxLen at hn
  go_enter Tryd.func3, Tryd.ntmps3
  go_wp2_with (go_at_call 5; refine (bytes1_any _ _ _ _ _ ?_).mono ?_; omega; rintro e w' ⟨⟨b, rfl⟩, rfl⟩)
  all_goals (go_ret; exact ⟨rfl, Below.refl _ _⟩)

theorem law1 {a0 : Option Addr} {n c0 : Nat} {z0 : List Int} {x : Int} {w : World} (h0 : IsRow w a0 n c0 z0) :
    Calls Tryd.prog 3 #[.slice a0 n c0, .int .i64 x] w fun e w' => e = .returned (.bool true) ∧ Below w.heap.size w w' := by
  obtain ⟨s0, e0, m0⟩ := slis_of h0
  by_cases h : 65536 < n
  · exact law1_early a0 n c0 x w m0 h
  · exact law1_main a0 n c0 x _ w (by omega) e0 s0

end Go.Proofs.Qxb6619867aDoor.Pad
