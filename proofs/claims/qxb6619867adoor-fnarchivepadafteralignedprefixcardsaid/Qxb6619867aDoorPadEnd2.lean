/-
  'FnArchivePadAfterAlignedPrefix', EVERY INPUT.
-/
import Derived.Test.Qxb6619867aDoorPadLaw2
import Derived.Test.Qxb6619867aDoorPadEnd1
namespace Go.Proofs.Qxb6619867aDoor.Pad
open Go.RowKit

theorem law2_early (a0 b0 : Option Addr) (n c0 m d0 : Nat) (x : Int) (w : World) (hn : n ≤ maxLen) (hm : m ≤ maxLen) (h : 65536 < n ∨ 65536 < m) :
    Calls Tryd.prog 4 #[.slice a0 n c0, .slice b0 m d0, .int .i64 x] w fun e w' => e = .returned (.bool true) ∧ Below w.heap.size w w' := by
  unfold maxLen at hn hm
  rcases (by omega : 65536 < n ∨ (¬ 65536 < n ∧ 65536 < m)) with g | ⟨g, g2⟩
  all_goals
    clear h
    go_enter Tryd.func4, Tryd.ntmps4
    go_wp2_with (go_at_call 9; refine (bytes2_any _ _ _ _ _ _ _ _ ?_ ?_).mono ?_; omega; omega; rintro e w' ⟨⟨b, rfl⟩, rfl⟩)
    all_goals (go_ret; exact ⟨rfl, Below.refl _ _⟩)

theorem law2 {a0 b0 : Option Addr} {n c0 m d0 : Nat} {z0 z1 : List Int} {x : Int} {w : World} (h0 : IsRow w a0 n c0 z0) (h1 : IsRow w b0 m d0 z1) :
    Calls Tryd.prog 4 #[.slice a0 n c0, .slice b0 m d0, .int .i64 x] w fun e w' => e = .returned (.bool true) ∧ Below w.heap.size w w' := by
  obtain ⟨s0, e0, m0⟩ := slis_of h0
  obtain ⟨s1, e1, m1⟩ := slis_of h1
  by_cases h : 65536 < n ∨ 65536 < m
  · exact law2_early a0 b0 n c0 m d0 x w m0 m1 h
  · exact law2_main a0 b0 n c0 m d0 x _ _ w (by omega) (by omega) e0 e1 s0 s1

end Go.Proofs.Qxb6619867aDoor.Pad
