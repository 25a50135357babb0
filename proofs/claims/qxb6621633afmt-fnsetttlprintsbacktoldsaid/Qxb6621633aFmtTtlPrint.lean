/-
  THE WALK OF 'FnSetTTLPrintsBack'.
-/
import Derived.Test.Qxb6621633aFmtTtlUint
import Derived.Test.Qxb6621633aFmtTtlDec
import Derived.Lib.SmallJoins
namespace Go.Proofs.Qxb6621633aFmt.Ttl
open Go.RowKit Go.Extern.Stop Go.Stop Go.Extern

theorem tabVar : Tryf.prog.globalNamed (Rows.fnSetTTLPrintsBackRow.named.headD default) = some 0 := by kernel_rfl
theorem tab_below {w w' : World} (h : Tab w) (hb : Below w.heap.size w w') : Tab w' := Joins.tab_stays tabVar h hb (Nat.le_refl _)

theorem worth_eq (n : Int) (w : World) (h0 : 0 ≤ n) (h1 : n ≤ 18446744073709551615) :
    Calls Tryf.prog 7 #[.int .u64 n] w fun e w' => e = .returned (.bool (okB n)) ∧ w = w' :=
  (worth_any n w h0 h1).mono fun _ _ ⟨he, hw⟩ => ⟨he, hw.symm⟩

set_option maxRecDepth 20000 in
set_option maxHeartbeats 1000000 in
theorem print_main (F : Interp) (pb po : Nat) (old u : Nat) (w : World) (hF : F.answers w.tape) (htab : Tab w) (ho : old ≤ 4294967295) (hu : u < 18446744073709551616)
    (hp : w.cell? ⟨pb, po, none⟩ = some (.int .u32 old)) :
    Calls Tryf.prog 4 #[.pointer (some ⟨pb, po, none⟩), .int .u64 u] w fun e w' => e = .returned (.bool true) ∧ Below w.heap.size w w' := by
  have HF : Hid (F.answers w.tape) := hF
  have hb0 : Below w.heap.size w (w.alloc (.cells #[.int .u32 old] 25)) := (Below.refl _ _).alloc (Nat.le_refl _) _
  have HT : Hid (Tab w) := htab
  clear hF htab
  by_cases hok : okB u = true
  · have hu2 : u ≤ 4294967295 := by have := okB_yes hok; omega
    go_enter Tryf.func4, Tryf.ntmps4
    go_wp2_with (go_at_call 6; refine (zzSet_at w.heap.size 0 (.int .u32 old) u _ hok (by simp) (by simp)).mono ?_; rintro e w1 ⟨rfl, d1, d2, d3⟩)
    have hb1 : Below w.heap.size w w1 := hb0.trans d3
    refine (zzStr_any u hu2 w1 (tab_below HT.out hb1)).mono ?_
    rintro e w2 ⟨rfl, b2⟩
    have hb2 : Below w.heap.size w w2 := hb1.trans (b2.mono hb1.size)
    clear d1 d2 d3 b2 hb0 hb1 hp
    go_wp2_with (go_at_call 7; refine (worth_eq u _ (by omega) (by omega)).mono ?_; rintro e w' ⟨rfl, rfl⟩)
    refine (dec_any u hu w2).mono ?_
    rintro e w3 ⟨rfl, b3⟩
    have hb3 : Below w.heap.size w w3 := hb2.trans (b3.mono hb2.size)
    generalize ByteArray.mk (Lib.decDigits u).toArray = S at *
    go_wp2
    go_ret
    exact ⟨rfl, hb3⟩
  · have hok' : okB u = false := by simpa using hok
    clear hok
    go_enter Tryf.func4, Tryf.ntmps4
    go_wp2_with fail
    refine (zzSet_no F _ u (w.alloc (.cells #[.int .u32 old] 25)) HF.out hok').mono ?_
    rintro e w1 ⟨⟨ae, rfl⟩, d3⟩
    have d1 : w1.cell? ⟨w.heap.size, 0, none⟩ = some (.int .u32 old) := (d3.cell (by simp)).trans (by simp)
    have hb1 : Below w.heap.size w w1 := hb0.trans (d3.mono (by simp))
    clear d3 hb0
    go_wp2_with fail
    refine (zzStr_any old ho w1 (tab_below HT.out hb1)).mono ?_
    rintro e w2 ⟨rfl, b2⟩
    have hb2 : Below w.heap.size w w2 := hb1.trans (b2.mono hb1.size)
    clear d1 b2 hb1 hp
    go_wp2_with (go_at_call 7; refine (worth_eq u _ (by omega) (by omega)).mono ?_; rintro e w' ⟨rfl, rfl⟩)
    refine (dec_any old (by omega) w2).mono ?_
    rintro e w3 ⟨rfl, b3⟩
    have hb3 : Below w.heap.size w w3 := hb2.trans (b3.mono hb2.size)
    generalize ByteArray.mk (Lib.decDigits old).toArray = S at *
    go_wp2
    go_ret
    exact ⟨rfl, hb3⟩

theorem print_nil (n : Int) (w : World) :
    Calls Tryf.prog 4 #[.pointer none, .int .u64 n] w fun e w' => e = .returned (.bool true) ∧ Below w.heap.size w w' := by
  go_enter Tryf.func4, Tryf.ntmps4
  go_wp2
  go_ret
  exact ⟨rfl, Below.refl _ _⟩

end Go.Proofs.Qxb6621633aFmt.Ttl
