/-
  THE WALKS OF 'FormatUint' AT BASE 10, OF THE FLAG's 'String', OF 'ZZTTLString': the library's inner functions by the shelf's contracts.
-/
import Derived.Test.Qxb6621633aFmtTtlFacts
import Derived.Test.Qxb6621633aFmtShelf
import Derived.Lib.ItoaMem
import Derived.BigCall
import Derived.BigGuard
namespace Go.Proofs.Qxb6621633aFmt.Ttl
open Go.RowKit Go.Sort Go.Lib

/-- The library's table of powers of ten, as a walk is told of it. -/
def Tab (w : World) : Prop := Lib.TabIs Tryf.prog w (Rows.fnSetTTLPrintsBackRow.named.headD default) .u64 Lib.pow10Tab

theorem holds_zero0 (w : World) (T : TypeId) (nd : Nat) (hs : nd ≤ 24) : Holds (fun (b : UInt8) => Value.int .u8 (b.toNat : Int)) (w.alloc (.cells zeros24 T)) w.heap.size 0 (Array.replicate nd (0 : UInt8)) := fun j hj => by
  have hj' : j < nd := by simpa using hj
  refine ⟨?_, World.frozen?_alloc_new _ _ _ _⟩
  rw [World.cell?_alloc_new, zeros24_at _ (by omega), getElem!_pos _ j hj]
  simp

theorem below_put (w : World) (o : Obj) (dk : Array UInt8) (k : Nat) : Below w.heap.size w ((putRow (fun (b : UInt8) => Value.int .u8 (b.toNat : Int)) (w.alloc o) w.heap.size 0 dk).drewN k) := by
  rw [alloc_eq_grow]
  obtain ⟨os', _, e⟩ := putRow_grow_new (fun (b : UInt8) => Value.int .u8 (b.toNat : Int)) w #[o] w.heap.size 0 dk (Nat.le_refl _)
  rw [e]
  have h : Below w.heap.size w (grow w os') := ⟨rfl, rfl, rfl, by simp [grow], fun i hi => by simp [grow, Array.getElem?_append, hi]⟩
  exact below_drewN h k

set_option maxHeartbeats 1000000 in
set_option maxRecDepth 100000 in
theorem fmtUint (u : Nat) (hu64 : u < 18446744073709551616) (w : World) (htab : Tab w) :
    Calls Tryf.prog 16 #[.int .u64 u, .int .i64 10] w fun e w' => e = .returned (.string ⟨(Lib.decDigits u).toArray⟩) ∧ Below w.heap.size w w' := by
  by_cases hs : u < 100
  · go_enter Tryf.func16, Tryf.ntmps16
    go_wp2_with (go_at_call 17; refine (Tryf.internal_strconv_small u hs _).mono ?_; rintro e w' ⟨rfl, hw⟩)
    go_ret
    exact ⟨rfl, Below.refl _ _⟩
  · have hu1 : 1 ≤ u := by omega
    have hnd20 : Lib.nDigits u ≤ 20 := by have := Lib.numDigits_eq u hu1 hu64; split at this <;> omega
    have hsl : ∀ W, (Instr.sliceAt 49 (.pointer (some ⟨w.heap.size, 0, none⟩)) none (some (.int .i64 (Lib.nDigits u : Int))) none).run Tryf.prog W = .ok (.slice (some ⟨w.heap.size, 0, none⟩) (Lib.nDigits u) 24) W := fun W => by
      have hal : Tryf.prog.arrayLen 49 = 24 := by kernel_rfl
      rw [run_sliceAt_array_h W 49 ⟨w.heap.size, 0, none⟩ (by kernel_rfl) .i64 (Lib.nDigits u : Int) (by omega) (by rw [hal]; omega)]
      have hz : ∀ w, (sizeOf (Tryf.prog.elem 49)).run Tryf.prog w = .ok 1 w := fun w => by kernel_rfl
      rw [hz]
      simp [slicedAt, hal, Result.andThen, Lib.add_plain]
    have hH0 := holds_zero0 w 49 (Lib.nDigits u) (by omega)
    have hfmt := Tryf.internal_strconv_formatBase10 w.heap.size 0 24 u (Array.replicate (Lib.nDigits u) 0) (w.alloc (.cells Lib.zeros24 49)) hH0 (by rw [Array.size_replicate]; exact Lib.lt_pow_nDigits u) hu64 (by rw [Array.size_replicate]; omega)
    rw [Array.size_replicate] at hfmt
    have HH0 := Lib.hid hH0
    have HT := Lib.hid htab
    clear hH0 htab
    go_enter Tryf.func16, Tryf.ntmps16
    go_wp2_with (go_at_call 18; refine (Tryf.internal_strconv_numDigits u hu1 hu64 _ (Lib.tabIs_alloc HT.out _)).mono ?_; rintro e w' ⟨rfl, rfl⟩)
    refine hfmt.mono ?_
    rintro e w' ⟨rfl, k, v', dk, rfl, hF⟩
    have hcv : (convert 38 9 (.slice (some ⟨w.heap.size, 0, none⟩) (Lib.nDigits u) 24)).run Tryf.prog ((putRow (fun (b : UInt8) => Value.int .u8 (b.toNat : Int)) (w.alloc (.cells Lib.zeros24 49)) w.heap.size 0 dk).drewN k) = .ok (.string ⟨(Lib.decDigits u).toArray⟩) ((putRow (fun (b : UInt8) => Value.int .u8 (b.toNat : Int)) (w.alloc (.cells Lib.zeros24 49)) w.heap.size 0 dk).drewN k) := by
      have h := run_convert_bytes_back (P := Tryf.prog) ((putRow (fun (b : UInt8) => Value.int .u8 (b.toNat : Int)) (w.alloc (.cells Lib.zeros24 49)) w.heap.size 0 dk).drewN k) 38 9 5 ⟨w.heap.size, 0, none⟩ 24 (Lib.decDigits u) Tryf.underlying38 Tryf.underlying5 Tryf.underlying9 (fun j hj => by
        rw [Lib.row_is_numeral hF j hj, Lib.add_plain, World.cell?_drewN]
        exact cell?_putRow (fun (b : UInt8) => Value.int .u8 (b.toNat : Int)) _ w.heap.size 0 _ dk HH0.out (by rw [hF.size, Array.size_replicate]) j (by rw [hF.size]; rw [Lib.decDigits_length] at hj; exact hj))
      rw [Lib.decDigits_length] at h
      exact h
    have hbel := below_put w (.cells Lib.zeros24 49) dk k
    clear hfmt hF
    generalize (putRow (fun (b : UInt8) => Value.int .u8 (b.toNat : Int)) (w.alloc (.cells Lib.zeros24 49)) w.heap.size 0 dk).drewN k = W at *
    go_wp2
    go_ret
    exact ⟨rfl, hbel⟩

theorem fmtUint_pub (u : Nat) (hu64 : u < 18446744073709551616) (w : World) (htab : Tab w) :
    Calls Tryf.prog 13 #[.int .u64 u, .int .i64 10] w fun e w' => e = .returned (.string ⟨(Lib.decDigits u).toArray⟩) ∧ Below w.heap.size w w' := by
  have HT := Lib.hid htab
  clear htab
  go_enter Tryf.func13, Tryf.ntmps13
  go_wp2_with (go_at_call 16; refine (fmtUint u hu64 _ HT.out).mono ?_; rintro e w' ⟨rfl, hb⟩)
  go_ret
  exact ⟨rfl, hb⟩

/-- The flag's String, its pointer leading to v. -/
theorem str_any (b o : Nat) (v : Nat) (hv : v ≤ 4294967295) (w : World) (htab : Tab w) (hc : w.cell? ⟨b, o, none⟩ = some (.int .u32 v)) :
    Calls Tryf.prog 11 #[.pointer (some ⟨b, o, none⟩)] w fun e w' => e = .returned (.string ⟨(Lib.decDigits v).toArray⟩) ∧ Below w.heap.size w w' := by
  have HT := Lib.hid htab
  clear htab
  go_enter Tryf.func11, Tryf.ntmps11
  go_wp2_with (go_at_call 13; refine (fmtUint_pub v (by omega) _ HT.out).mono ?_; rintro e w' ⟨rfl, hb⟩)
  go_ret
  exact ⟨rfl, hb⟩

theorem zzStr_any (v : Nat) (hv : v ≤ 4294967295) (w : World) (htab : Tab w) :
    Calls Tryf.prog 8 #[.int .u32 v] w fun e w' => e = .returned (.string ⟨(Lib.decDigits v).toArray⟩) ∧ Below w.heap.size w w' := by
  have HT := Lib.hid htab
  clear htab
  go_enter Tryf.func8, Tryf.ntmps8
  go_wp2_with (go_at_call 11; refine (str_any w.heap.size 0 v hv _ (Lib.tabIs_alloc HT.out _) (by simp)).mono ?_; rintro e w' ⟨rfl, hb⟩)
  go_ret
  exact ⟨rfl, ((Below.refl _ _).alloc (Nat.le_refl _) _).trans (hb.mono (by simp))⟩

end Go.Proofs.Qxb6621633aFmt.Ttl
