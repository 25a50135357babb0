/-
  THE CLOSED FACTS FOR A WALK OVER fmt.errorf AT THIS DUMP (after the pattern of the kit's worked CheckFmt.lean), AND THE WALKS OF 'setTTL', 'ZZSetTTL', 'ttlWorth'.
-/
import Derived.Test.Qxb6621633aFmtRows
import Derived.Stop.CallBack
import Derived.Stop.IfaceNil
import GoSem.ClaimData
import Derived.WalkKit
import Derived.WalkSpells
import Derived.RowKit3
import Derived.Below
import Derived.WalkSmall
import Derived.Laws.Shifts
namespace Go.Proofs.Qxb6621633aFmt.Ttl
open Go.RowKit Go.Extern.Stop Go.Stop Go.Extern

theorem call14 (args : Array Value) (w : World) : (callFunc 14 args).run Tryf.prog w = ((FmtStop.errorf #[9, 42] #[27] args).run Tryf.prog w).andThen fun v w' => .ok (.value v) w' :=
  run_callFunc_extern Tryf.func14 (by kernel_rfl) (by kernel_rfl) (by kernel_rfl) (by kernel_rfl) args w
theorem guard (name : String) (w : World) : (FmtStop.guard name).run Tryf.prog w = .ok () w := by kernel_rfl
theorem fmt0 : FmtStop.printed? ⟨#[119, 97, 110, 116, 32, 102, 114, 111, 109, 32, 49, 32, 116, 111, 32, 37, 100, 32, 115, 101, 99, 111, 110, 100, 115]⟩ 1 = some [(0, 100, false)] := by kernel_rfl
theorem fmt0r (w : World) : (FmtDoors.printed ⟨#[119, 97, 110, 116, 32, 102, 114, 111, 109, 32, 49, 32, 116, 111, 32, 37, 100, 32, 115, 101, 99, 111, 110, 100, 115]⟩ 1).run Tryf.prog w = .ok [(0, 100, false)] w := by kernel_rfl
def shape3 : List UInt8 := [5, 3, 0, 0, 0, 0, 0, 0, 0, 105, 110, 116]
theorem op3_100 (name : String) (x : Int) (w : World) : (FmtStop.operand name false 100 false (.iface 3 (.int .i64 x))).run Tryf.prog w = .ok (shape3, Go.Extern.Stop.digits 8 (x % 2 ^ 64).toNat) w := by kernel_rfl
theorem op3_100w (name : String) (x : Int) (w : World) : (FmtStop.operand name true 100 false (.iface 3 (.int .i64 x))).run Tryf.prog w = .ok (shape3, Go.Extern.Stop.digits 8 (x % 2 ^ 64).toNat) w := by kernel_rfl
theorem ptr45 (w : World) : (FmtStop.ptrTo "errors.errorString").run Tryf.prog w = .ok 45 w := by kernel_rfl
theorem elem45 (w : World) : (elemOf 45).run Tryf.prog w = .ok 47 w := by kernel_rfl
theorem isError45 (w : World) : (FmtDoors.textMethod 45 "Error").run Tryf.prog w = .ok true w := by kernel_rfl

attribute [local go_sem] call14 guard fmt0 fmt0r op3_100 op3_100w ptr45 elem45 isError45

/-- Is n a TTL that is taken? -/
def okB (n : Int) : Bool := decide (1 ≤ n ∧ n ≤ 2147483647)
theorem okB_yes {n : Int} (h : okB n = true) : 1 ≤ n ∧ n ≤ 2147483647 := of_decide_eq_true h
theorem okB_no {n : Int} (h : okB n = false) : n < 1 ∨ 2147483647 < n := by
  have := of_decide_eq_false h
  omega

set_option maxHeartbeats 400000 in
theorem set_no (F : Interp) (p : Option Addr) (n : Int) (w : World) (hF : F.answers w.tape) (h : okB n = false) :
    Calls Tryf.prog 10 #[.pointer p, .int .u64 n] w fun e w' => (∃ a, e = .returned (.iface 45 (.pointer (some a)))) ∧ Below w.heap.size w w' := by
  have hF' : ∀ i name reading k range, w.tape i (.extern (word name reading k) range) = F name reading k := hF
  have h' := okB_no h
  rcases (by omega : n < 1 ∨ (¬ n < 1 ∧ 2147483647 < n)) with g | ⟨g, g2⟩
  all_goals
    clear h h'
    go_enter Tryf.func10, Tryf.ntmps10
    go_wp2
    go_ret
    exact ⟨⟨_, rfl⟩, (((Below.refl _ _).alloc (Nat.le_refl _) _).alloc (by simp) _).drew⟩

theorem set_yes (b o : Nat) (v : Value) (n : Int) (w : World) (h : okB n = true) (hc : w.cell? ⟨b, o, none⟩ = some v) (hf : w.frozen? ⟨b, o, none⟩ = false) :
    Calls Tryf.prog 10 #[.pointer (some ⟨b, o, none⟩), .int .u64 n] w fun e w' => e = .returned .nilIface ∧ w' = w.setCell ⟨b, o, none⟩ (.int .u32 n) := by
  obtain ⟨h1, h2⟩ := okB_yes h
  clear h
  go_enter Tryf.func10, Tryf.ntmps10
  go_wp2
  go_ret
  exact ⟨rfl, rfl⟩

theorem zzSet_no (F : Interp) (p : Option Addr) (n : Int) (w : World) (hF : F.answers w.tape) (h : okB n = false) :
    Calls Tryf.prog 6 #[.pointer p, .int .u64 n] w fun e w' => (∃ a, e = .returned (.iface 45 (.pointer (some a)))) ∧ Below w.heap.size w w' := by
  go_enter Tryf.func6, Tryf.ntmps6
  go_wp2_with (go_at_call 10; refine (set_no F p n _ hF h).mono ?_; rintro e w' ⟨⟨a, rfl⟩, hb⟩)
  go_ret
  exact ⟨⟨a, rfl⟩, hb⟩

theorem zzSet_yes (b o : Nat) (v : Value) (n : Int) (w : World) (h : okB n = true) (hc : w.cell? ⟨b, o, none⟩ = some v) (hf : w.frozen? ⟨b, o, none⟩ = false) :
    Calls Tryf.prog 6 #[.pointer (some ⟨b, o, none⟩), .int .u64 n] w fun e w' => e = .returned .nilIface ∧ w' = w.setCell ⟨b, o, none⟩ (.int .u32 n) := by
  go_enter Tryf.func6, Tryf.ntmps6
  go_wp2_with (go_at_call 10; refine (set_yes b o v n _ h hc hf).mono ?_; rintro e w' ⟨rfl, rfl⟩)
  go_ret
  exact ⟨rfl, rfl⟩

theorem zzSet_at (b o : Nat) (v : Value) (n : Int) (w : World) (h : okB n = true) (hc : w.cell? ⟨b, o, none⟩ = some v) (hf : w.frozen? ⟨b, o, none⟩ = false) :
    Calls Tryf.prog 6 #[.pointer (some ⟨b, o, none⟩), .int .u64 n] w fun e w' => e = .returned .nilIface ∧ w'.cell? ⟨b, o, none⟩ = some (.int .u32 n) ∧ w'.frozen? ⟨b, o, none⟩ = false ∧ Below b w w' := by
  refine (zzSet_yes b o v n w h hc hf).mono ?_
  rintro e w' ⟨rfl, rfl⟩
  refine ⟨rfl, ?_, ?_, (Below.refl b w).setCell (p := ⟨b, o, none⟩) (Nat.le_refl _) _⟩
  · exact World.cell?_setCell_same _ _ _ hc
  · rw [World.frozen?_setCell]; exact hf

theorem worth_any (n : Int) (w : World) (h0 : 0 ≤ n) (h1 : n ≤ 18446744073709551615) :
    Calls Tryf.prog 7 #[.int .u64 n] w fun e w' => e = .returned (.bool (okB n)) ∧ w' = w := by
  by_cases h : okB n = true
  · obtain ⟨g1, g2⟩ := okB_yes h
    have e1 : (n != 0) = true := by simp; omega
    have e2 : (n / 2147483648 == 0) = true := by simp; omega
    go_enter Tryf.func7, Tryf.ntmps7
    go_wp2
    go_ret
    exact ⟨by rw [h]; rfl, rfl⟩
  · have h' : okB n = false := by simpa using h
    have g := okB_no h'
    clear h
    by_cases hz : n = 0
    · subst hz
      go_enter Tryf.func7, Tryf.ntmps7
      go_wp2
      go_ret
      exact ⟨rfl, rfl⟩
    · have e1 : (n != 0) = true := by simp; omega
      have e2 : (n / 2147483648 == 0) = false := by simp; omega
      clear hz
      go_enter Tryf.func7, Tryf.ntmps7
      go_wp2
      go_ret
      exact ⟨by rw [h']; rfl, rfl⟩

end Go.Proofs.Qxb6621633aFmt.Ttl
