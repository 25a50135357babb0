/-
  THE PROOF OF 'Rows.FnCanonicalReadsBackAndTellsEqualityCardSaid': the row by the walk, the listed tables' witness in the heap that the door's own run leaves; then the tied card.
-/
import Derived.Test.Qxb6621692aDoorRows
import Derived.Test.Qxb6621692aDoorTie
import Derived.Test.Qxb6621692aDoorCards
import Derived.Test.Qxb6621692aDoorCanLaw
import Derived.WalkKit
import Derived.ProofKit
import Derived.OpenShut
import Derived.ShutString
import Derived.ChangeOld
import Derived.Below
import Derived.LaidMore
import Derived.MakeChecks
import Derived.Lib.LaidTab
import Derived.Stop.Joined
import Derived.SevenTiedAt
namespace Go.Proofs.Qxb6621692aDoor.Can
open Go.ChangeShapes Go.WideShapes Go.ChangeAt Go.RowKit
open Go.ChangeMaps (open_string shut_string)

theorem own : ownKnob Tryd.prog.godebug = none := by kernel_rfl
theorem tabType : (Tryd.prog.globals[0]?).map (·.type) = some 42 := by kernel_rfl
theorem tabDatum : (Rows.laid_internal_strconv_uint64pow10 : DataW Unit) = Lib.tabData .u64 Lib.pow10Tab := by rfl

theorem tab_of_laid {W : World} (h : laidMetH Tryd.prog Rows.fnCanonicalReadsBackAndTellsEqualityRow.laid W) : Tab W := by
  rw [MakeChecks.laidMetH_plain _ _ _ (by kernel_rfl)] at h
  obtain ⟨ps, ⟨g0, t0, cs0, f0, p0, q0, hg0, ht0, hv0, hd0, ⟨g1, t1, cs1, f1, p1, q1, hg1, ht1, hv1, hd1, ⟨g2, t2, cs2, f2, p2, q2, hg2, ht2, hv2, hd2, _, _⟩, _⟩, _⟩, _⟩ := h
  obtain rfl := Option.some.inj (tabVar.symm.trans hg2)
  obtain rfl := Option.some.inj (tabType.symm.trans ht2)
  rw [tabDatum] at hd2
  unfold Tab Lib.TabIs
  rw [← Lib.cells_of_tab (n := 20) (e := 34) Tryd.underlying42 Tryd.underlying34 (by kernel_rfl) (by kernel_rfl) hd2]
  exact hv2

/-- The door's own heap meets the condition. -/
theorem door_met (os : Os) (args : Array Value) : laidMetH Tryd.prog Rows.fnCanonicalReadsBackAndTellsEqualityRow.laid ((World.doorLaid Tryd.prog 400 os).forCall (fun _ _ => 0) ⟨#[], args, []⟩).memory :=
  laidMetH_of_parts3 (fuel := 8) (laidMet_of_run' 8 (by kernel_rfl) (by kernel_rfl)) (by kernel_rfl) (by kernel_rfl)

theorem law (na nb : Bool) (da db : ByteArray) (xa xb : Int) (w : World) (htab : Tab w) (ha : da.size ≤ maxLen) (hb : db.size ≤ maxLen)
    (wa : (Lit.int .i64 xa).wf = true) (wb : (Lit.int .i64 xb).wf = true) :
    Calls Tryd.prog 3 #[.bool na, .string da, .int .i64 xa, .bool nb, .string db, .int .i64 xb] w fun e w' => e = .returned (.bool true) ∧ Below w.heap.size w w' := by
  by_cases h : da.size + db.size ≤ 1048576
  · have h1 := bounds_i64 wa
    have h2 := bounds_i64 wb
    exact law_main na nb da db xa xb w htab h (by omega) (by omega) (by omega) (by omega)
  · exact law_early na nb da db xa xb w ha hb (by omega)

set_option maxRecDepth 100000 in
theorem lifted (os : Os) (started : os.Started) (H : Type) (enc : TypeId × Value → H) :
    ReturnsInHanded {} Tryd.checked os 3 .any (fun w args => (Rows.fnCanonicalReadsBackAndTellsEqualitySpec.pre enc Tryd.prog Tryd.f3 [] false w args ∧ laidMetH Tryd.prog Rows.fnCanonicalReadsBackAndTellsEqualityRow.laid w) ∧ sizedMet enc Tryd.prog Tryd.f3 (OpenSpec.ofChange Rows.fnCanonicalReadsBackAndTellsEqualitySpec) false w args)
      (Rows.fnCanonicalReadsBackAndTellsEqualitySpec.post enc Tryd.prog Tryd.f3 false true false false) := by
  refine returnsInHanded_of_change_and (C := Tryd.checked) (X := fun w _ => laidMetH Tryd.prog Rows.fnCanonicalReadsBackAndTellsEqualityRow.laid w) (fun _ _ _ hh h => h.of_heap hh) own started (by kernel_rfl) Tryd.func3
    (ChangeSpec.witness_shaped (enc := enc) (C := Tryd.checked) (os := os) (X := fun w _ => laidMetH Tryd.prog Rows.fnCanonicalReadsBackAndTellsEqualityRow.laid w) false (World.doorLaid Tryd.prog 400 os) #[.bool false, .string ⟨#[]⟩, .int .i64 0, .bool false, .string ⟨#[]⟩, .int .i64 0] 8 rfl (World.shaped_of_RefB (by kernel_rfl) (by kernel_rfl)) (by kernel_rfl) (by kernel_rfl) (by kernel_rfl) (door_met os _)) ?_
  intro W base args ds gs before hval0 hW _ _ hL _
  have hval : ∀ (j : Nat) t v, Tryd.f3.params[j]? = some t → args[j]? = some v → Value.okWide Tryd.prog W .any base t v := hval0
  have hW' := hW
  obtain ⟨p, q, hA0, hV, rfl, hfz, hnd⟩ := hW
  have hA : DataW.TrodAll enc Tryd.prog W 0 (fun _ => true) true Tryd.f3.params.toList args.toList ds p := hA0
  rw [Tryd.params3] at hA hval
  obtain ⟨v0, vs0, d0, ds0, p0, q0, hargs, rfl, rfl, h0, r0⟩ := trodAll_cons hA
  obtain ⟨v1, vs1, d1, ds1, p1, q1, rfl, rfl, rfl, h1, r1⟩ := trodAll_cons r0
  obtain ⟨v2, vs2, d2, ds2, p2, q2, rfl, rfl, rfl, h2, r2⟩ := trodAll_cons r1
  obtain ⟨v3, vs3, d3, ds3, p3, q3, rfl, rfl, rfl, h3, r3⟩ := trodAll_cons r2
  obtain ⟨v4, vs4, d4, ds4, p4, q4, rfl, rfl, rfl, h4, r4⟩ := trodAll_cons r3
  obtain ⟨v5, vs5, d5, ds5, p5, q5, rfl, rfl, rfl, h5, r5⟩ := trodAll_cons r4
  obtain ⟨rfl, rfl, rfl⟩ := trodAll_nil r5
  obtain rfl : args = #[v0, v1, v2, v3, v4, v5] := by cases args; simp_all
  obtain ⟨rfl, rfl⟩ := trodVars_none hV
  obtain ⟨na, rfl, rfl, rfl⟩ := open_bool Tryd.underlying4 (hval 0 4 v0 rfl rfl) h0
  obtain ⟨da, rfl, rfl, rfl, sa⟩ := open_string Tryd.underlying9 (hval 1 9 v1 rfl rfl) h1
  obtain ⟨xa, rfl, rfl, rfl, wa⟩ := open_int Tryd.underlying2 (hval 2 2 v2 rfl rfl) h2
  obtain ⟨nb, rfl, rfl, rfl⟩ := open_bool Tryd.underlying4 (hval 3 4 v3 rfl rfl) h3
  obtain ⟨db, rfl, rfl, rfl, sb⟩ := open_string Tryd.underlying9 (hval 4 9 v4 rfl rfl) h4
  obtain ⟨xb, rfl, rfl, rfl, wb⟩ := open_int Tryd.underlying2 (hval 5 2 v5 rfl rfl) h5
  clear hA0 hval0
  refine (law na nb da db xa xb W (tab_of_laid hL) sa sb wa wb).mono fun e W' ⟨he, bel⟩ => ?_
  subst he
  exact ⟨_, rfl, _, _, _, [], _, [], hW', trodAll_mk1 (shut_bool Tryd.underlying4 _), (trodAll_cons_mk (shut_bool Tryd.underlying4 na) (trodAll_cons_mk (shut_string Tryd.underlying9 sa) (trodAll_cons_mk (shut_int Tryd.underlying2 wa) (trodAll_cons_mk (shut_bool Tryd.underlying4 nb) (trodAll_cons_mk (shut_string Tryd.underlying9 sb) (trodAll_cons_mk (shut_int Tryd.underlying2 wb) trodAll_mk0)))))), rfl, bel.frame _, fun h => by cases h⟩

theorem over : Rows.fnCanonicalReadsBackAndTellsEqualityRow.holds Tryd.pinned (OpenSpec.ofChange Rows.fnCanonicalReadsBackAndTellsEqualitySpec) :=
  OpenClaim.holds_of_wide 3 Tryd.f3 rfl rfl rfl rfl rfl rfl rfl ⟨rfl, rfl, rfl, rfl, rfl⟩ rfl rfl rfl rfl rfl (by kernel_rfl) Tryd.func3 (by kernel_rfl)
    (of_decide_eq_true (by kernel_rfl)) (by unfold Func.isWrapper; first | (rw [if_pos (by decide +kernel)]; kernel_rfl) | (rw [if_neg (by decide +kernel)]; exact ⟨rfl, rfl⟩))
    (fun os started H enc _ => lifted os started H enc)

theorem card : Rows.FnCanonicalReadsBackAndTellsEqualityCardSaid :=
  Claim7.holds_tied_plain_at .later [] [.data, .data, .data] true (true, "498ec89a4878cd1cf21502987fe5269007e4bc67713168148e81b4c82ac5f9b2") false
    over (fun _ h => by cases h) (by kernel_rfl) (fun _ h => by cases h) fnCanonicalReadsBackAndTellsEquality_row_tie rfl ⟨rfl, rfl⟩ (by kernel_rfl) rfl
    (fun f fn hf hfn => by
      obtain rfl : f = 3 := Option.some.inj ((show Tryd.prog.funcNamed Rows.fnCanonicalReadsBackAndTellsEqualityRow.func = some 3 by kernel_rfl).symm.trans hf) |>.symm
      obtain rfl : fn = Tryd.f3 := (Option.some.inj (Tryd.func3.symm.trans hfn)).symm
      exact ⟨by kernel_rfl, fun j t ht => by
        rw [Tryd.params3] at ht
        have h3 : t = 4 ∨ t = 9 ∨ t = 2 := by
          match j, ht with
          | 0, ht => exact .inl (Option.some.inj ht).symm
          | 1, ht => exact .inr (.inl (Option.some.inj ht).symm)
          | 2, ht => exact .inr (.inr (Option.some.inj ht).symm)
          | 3, ht => exact .inl (Option.some.inj ht).symm
          | 4, ht => exact .inr (.inl (Option.some.inj ht).symm)
          | 5, ht => exact .inr (.inr (Option.some.inj ht).symm)
          | k + 6, ht => simp at ht
        rcases h3 with rfl | rfl | rfl
        · exact (show Tryd.prog.wantsStandIn 4 = false by kernel_rfl)
        · exact (show Tryd.prog.wantsStandIn 9 = false by kernel_rfl)
        · exact (show Tryd.prog.wantsStandIn 2 = false by kernel_rfl)⟩)
    (by kernel_rfl)
end Go.Proofs.Qxb6621692aDoor.Can
namespace Go.Proofs.Qxb6621692aDoor
theorem fnCanonicalReadsBackAndTellsEquality_card_holds : Rows.FnCanonicalReadsBackAndTellsEqualityCardSaid := Can.card
end Go.Proofs.Qxb6621692aDoor
