/-
  THE PROOF OF 'Rows.FnSetTTLPrintsBackToldSaid': from the listed table to the walk, the row's step at F.told, the told and tied card.
-/
import Derived.Test.Qxb6621633aFmtTie
import Derived.Test.Qxb6621633aFmtCards
import Derived.Test.Qxb6621633aFmtTtlPrint
import Derived.ProofKit
import Derived.OpenShut
import Derived.ChangeOld
import Derived.LaidMore
import Derived.MakeChecks
import Derived.Lib.LaidTab
import Derived.Deep.DeepWitnessRef
import Derived.Stop.JoinedTold
import Derived.SevenToldRow
import Derived.SevenTiedAt
namespace Go.Proofs.Qxb6621633aFmt.Print
open Go.ChangeShapes Go.WideShapes Go.ChangeAt Go.RowKit
open Go.Extern.Stop Go.Stop Go.Extern

theorem own : ownKnob Tryf.prog.godebug = none := by kernel_rfl
theorem laidOut : laidOutB Tryf.prog = true := by kernel_rfl
theorem cells25 : Tryf.prog.cellsOf 25 = 1 := by kernel_rfl
theorem tabType : (Tryf.prog.globals[0]?).map (·.type) = some 56 := by kernel_rfl
theorem tabDatum : (Rows.laid_internal_strconv_uint64pow10 : DataW Unit) = Lib.tabData .u64 Lib.pow10Tab := by rfl

theorem tab_of_laid {W : World} (h : laidMetH Tryf.prog Rows.fnSetTTLPrintsBackRow.laid W) : Ttl.Tab W := by
  rw [MakeChecks.laidMetH_plain _ _ _ (by kernel_rfl)] at h
  obtain ⟨ps, ⟨g0, t0, cs0, f0, p0, q0, hg0, ht0, hv0, hd0, ⟨g1, t1, cs1, f1, p1, q1, hg1, ht1, hv1, hd1, ⟨g2, t2, cs2, f2, p2, q2, hg2, ht2, hv2, hd2, _, _⟩, _⟩, _⟩, _⟩ := h
  obtain rfl := Option.some.inj (Ttl.tabVar.symm.trans hg2)
  obtain rfl := Option.some.inj (tabType.symm.trans ht2)
  rw [tabDatum] at hd2
  unfold Ttl.Tab Lib.TabIs
  rw [← Lib.cells_of_tab (n := 20) (e := 29) Tryf.underlying56 Tryf.underlying29 (by kernel_rfl) (by kernel_rfl) hd2]
  exact hv2

theorem door_met (os : Os) (args : Array Value) : laidMetH Tryf.prog Rows.fnSetTTLPrintsBackRow.laid ((World.doorLaid Tryf.prog 400 os).forCall (fun _ _ => 0) ⟨#[], args, []⟩).memory :=
  laidMetH_of_parts3 (fuel := 8) (laidMet_of_run' 8 (by kernel_rfl) (by kernel_rfl)) (by kernel_rfl) (by kernel_rfl)

theorem print (F : Interp) {p : Option Addr} {n : Int} {w : World} (hF : F.answers w.tape) (htab : Ttl.Tab w) (hn : (Lit.int .u64 n).wf = true)
    (h0 : p = none ∨ ∃ b o v, p = some ⟨b, o, none⟩ ∧ w.cell? ⟨b, o, none⟩ = some (.int .u32 v) ∧ (Lit.int .u32 v).wf = true) :
    Calls Tryf.prog 4 #[.pointer p, .int .u64 n] w fun e w' => e = .returned (.bool true) ∧ Below w.heap.size w w' := by
  rcases h0 with rfl | ⟨b, o, v, rfl, hc, hv⟩
  · exact Ttl.print_nil n w
  · have h1 := bounds_u64 hn
    have h2 := bounds_u32 hv
    obtain ⟨u, rfl⟩ := Int.eq_ofNat_of_zero_le h1.1
    obtain ⟨x, rfl⟩ := Int.eq_ofNat_of_zero_le h2.1
    exact Ttl.print_main F b o x u w hF htab (by omega) (by omega) hc

set_option maxRecDepth 100000 in
theorem lifted (os : Os) (started : os.Started) (H : Type) (enc : TypeId × Value → H) :
    ReturnsInTold none {} Tryf.checked os 4 .any Input.okWide ((OpenSpec.ofChange Rows.fnSetTTLPrintsBackSpec).preRow enc Tryf.prog Tryf.f4 [] false Rows.fnSetTTLPrintsBackRow.laid) (fun F => ((OpenSpec.ofChange Rows.fnSetTTLPrintsBackSpec).at F).post enc Tryf.prog Tryf.f4 false true false false) (aloneAtReturn Tryf.prog) nothingAlways := by
  refine returnsInTold_of_row (C := Tryf.checked) (s := OpenSpec.ofChange Rows.fnSetTTLPrintsBackSpec) (by kernel_rfl) own started (by kernel_rfl) Tryf.func4
    (OpenSpec.witness_stopped_atRef (enc := enc) (C := Tryf.checked) false (World.doorLaid Tryf.prog 400 os) #[.pointer none, .int .u64 0] rfl (by kernel_rfl) (by kernel_rfl) (by kernel_rfl) (OpenSpec.preRow_of_B rfl 8 (by kernel_rfl) (by kernel_rfl) (door_met os _))) ?_
  intro F W base args ds gs before _ hF hval0 hW _ _ _ hL _
  have hval : ∀ (j : Nat) t v, Tryf.f4.params[j]? = some t → args[j]? = some v → Value.okWide Tryf.prog W .any base t v := hval0
  have hW' := hW
  obtain ⟨p, q, hA0, hV, rfl, hfz, hnd⟩ := hW
  have hA : DataW.TrodAll enc Tryf.prog W 0 (fun _ => true) true Tryf.f4.params.toList args.toList ds p := hA0
  rw [Tryf.params4] at hA hval
  obtain ⟨v0, v1, d0, d1, p0, p1, rfl, rfl, rfl, h0, h1⟩ := trodAll_two hA
  obtain ⟨rfl, rfl⟩ := trodVars_none hV
  have k0 := h0
  have lt0 : ∀ x ∈ p0, x.block < W.heap.size := by obtain ⟨m, hm⟩ := k0; exact DataW.trod_lt m _ _ _ hm
  obtain ⟨pp, rfl, hp⟩ : ∃ pp, v0 = .pointer pp ∧ (pp = none ∨ ∃ b o v, pp = some ⟨b, o, none⟩ ∧ W.cell? ⟨b, o, none⟩ = some (.int .u32 v) ∧ (Lit.int .u32 v).wf = true) := by
    rcases open_ptr_int Tryf.underlying22 Tryf.underlying25 cells25 (hval 0 22 v0 rfl rfl) h0 with ⟨rfl, rfl, rfl⟩ | ⟨b, off, n, rfl, rfl, rfl, hcell, wn⟩
    · exact ⟨none, rfl, .inl rfl⟩
    · exact ⟨_, rfl, .inr ⟨b, off, n, rfl, hcell, wn⟩⟩
  obtain ⟨n, rfl, rfl, rfl, wn⟩ := open_int Tryf.underlying29 (hval 1 29 v1 rfl rfl) h1
  clear hA0 hval0
  refine (print F.told hF (tab_of_laid hL) wn hp).mono fun e W' ⟨he, bel⟩ => ?_
  subst he
  exact ⟨_, rfl, _, _, _, [], _, [], hW', trodAll_mk1 (shut_bool Tryf.underlying4 _), trodAll_mk2 (Below.trod laidOut (by kernel_rfl) (of_decide_eq_true (by kernel_rfl)) k0 bel lt0) (shut_int Tryf.underlying29 wn), rfl, bel.frame _, fun h => by cases h⟩

theorem stops : Tryf.pinned.checked.prog.stops = ["fmt.errorf"] := by kernel_rfl
theorem stopKnobs : Tryf.pinned.checked.prog.stopKnobs = [] := by kernel_rfl
theorem quiet (os : Os) : Stop.quiet Tryf.pinned.checked.prog os := by
  intro k hk
  rw [stopKnobs] at hk
  cases hk

theorem card : Rows.FnSetTTLPrintsBackToldSaid :=
  Claim7.holds_of_told_tied_any_at .later 4 Tryf.f4 "fmt.errorf" [] [] _ _ _ _ _ (by kernel_rfl) rfl rfl rfl laidOut (by kernel_rfl) rfl ⟨rfl, rfl, rfl, rfl, rfl, rfl, rfl⟩ rfl rfl (by kernel_rfl) (by kernel_rfl) Tryf.func4 (by kernel_rfl)
    (of_decide_eq_true (by kernel_rfl)) (by unfold Func.isWrapper; first | (rw [if_pos (by decide +kernel)]; kernel_rfl) | (rw [if_neg (by decide +kernel)]; exact ⟨rfl, rfl⟩)) stops.symm rfl stopKnobs.symm (by kernel_rfl)
    (by kernel_rfl) (by kernel_rfl) (by kernel_rfl) (by kernel_rfl) (by kernel_rfl) (by kernel_rfl) (by kernel_rfl) (by kernel_rfl) (by kernel_rfl) rfl (by kernel_rfl) rfl rfl
    rfl rfl
    rfl (by kernel_rfl) (by kernel_rfl) (by kernel_rfl) (by decide) (by kernel_rfl) fnSetTTLPrintsBack_row_tie
    (OpenClaim.moreEntering_of (by kernel_rfl) (by kernel_rfl) (by kernel_rfl) (by kernel_rfl) (by kernel_rfl) (by kernel_rfl) (by kernel_rfl) (by kernel_rfl) (by kernel_rfl) (by kernel_rfl))
    ⟨_, WideRow.started_initial, quiet _⟩
    (fun os started _ H enc _ => lifted os started H enc)

end Go.Proofs.Qxb6621633aFmt.Print
namespace Go.Proofs.Qxb6621633aFmt
theorem fnSetTTLPrintsBack_told_holds : Rows.FnSetTTLPrintsBackToldSaid := Print.card
end Go.Proofs.Qxb6621633aFmt
