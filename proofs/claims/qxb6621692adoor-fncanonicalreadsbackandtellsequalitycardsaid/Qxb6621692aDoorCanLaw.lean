/-
  THE WALK OF 'FnCanonicalReadsBackAndTellsEquality'.
-/
import Derived.Test.Qxb6621692aDoorCanText
import Derived.Test.Qxb6621692aDoorCanEq
import Derived.Deep.DeepCutAuto
namespace Go.Proofs.Qxb6621692aDoor.Can
open Go.RowKit

theorem bytes_any (na nb : Bool) (da db : ByteArray) (xa xb : Int) (w : World) (ha : da.size ≤ 9223372036854775807) (hb : db.size ≤ 9223372036854775807) :
    Calls Tryd.prog 4 #[.bool na, .string da, .int .i64 xa, .bool nb, .string db, .int .i64 xb] w fun e w' => (∃ b, e = .returned (.bool b)) ∧ w = w' := by
  go_enter Tryd.func4, Tryd.ntmps4
  go_wp2
  all_goals (go_ret; exact ⟨⟨_, rfl⟩, rfl⟩)

theorem bytes_yes (na nb : Bool) (da db : ByteArray) (xa xb : Int) (w : World) (h : da.size + db.size ≤ 1048576) :
    Calls Tryd.prog 4 #[.bool na, .string da, .int .i64 xa, .bool nb, .string db, .int .i64 xb] w fun e w' => e = .returned (.bool true) ∧ w = w' := by
  have h1 : da.size ≤ 1048576 := by omega
  have h2 : db.size ≤ 1048576 := by omega
  go_enter Tryd.func4, Tryd.ntmps4
  go_wp2
  go_ret
  exact ⟨rfl, rfl⟩

theorem same_eq (na : Bool) (da : ByteArray) (xa : Int) (nb : Bool) (db : ByteArray) (xb : Int) :
    sameB na da xa nb db xb = ((da.toList.isEmpty && db.toList.isEmpty) || (!da.toList.isEmpty && na == nb && da.toList == db.toList && xa == xb)) := by
  have key : ∀ d : ByteArray, d.toList = [] ↔ d.size = 0 := fun d => by
    rw [ByteArray.toList_eq, ← size_len, List.length_eq_zero_iff]
  have key2 : ∀ d : ByteArray, 0 < d.size ↔ ¬ d.toList = [] := fun d => by rw [key]; omega
  unfold sameB
  rw [Bool.eq_iff_iff]
  simp only [decide_eq_true_eq, Bool.or_eq_true, Bool.and_eq_true, Bool.not_eq_true', List.isEmpty_iff, beq_iff_eq, List.isEmpty_eq_false_iff, key2, ← key, ne_eq, and_assoc]

set_option maxRecDepth 20000 in
set_option maxHeartbeats 1000000 in
theorem law_early (na nb : Bool) (da db : ByteArray) (xa xb : Int) (w : World) (ha : da.size ≤ maxLen) (hb : db.size ≤ maxLen) (h : 1048576 < da.size + db.size) :
    Calls Tryd.prog 3 #[.bool na, .string da, .int .i64 xa, .bool nb, .string db, .int .i64 xb] w fun e w' => e = .returned (.bool true) ∧ Below w.heap.size w w' := by
  unfold maxLen at ha hb
  go_enter Tryd.func3, Tryd.ntmps3
  go_wp2_with (go_at_call 4; refine (bytes_any _ _ _ _ _ _ _ ha hb).mono ?_; rintro e w' ⟨⟨b, rfl⟩, rfl⟩)
  all_goals (go_ret; exact ⟨rfl, Below.refl _ _⟩)

set_option maxRecDepth 20000 in
set_option maxHeartbeats 1000000 in
theorem law_main (na nb : Bool) (da db : ByteArray) (xa xb : Int) (w : World) (htab : Tab w) (h : da.size + db.size ≤ 1048576)
    (a0 : -9223372036854775808 ≤ xa) (a1 : xa ≤ 9223372036854775807) (b0 : -9223372036854775808 ≤ xb) (b1 : xb ≤ 9223372036854775807) :
    Calls Tryd.prog 3 #[.bool na, .string da, .int .i64 xa, .bool nb, .string db, .int .i64 xb] w fun e w' => e = .returned (.bool true) ∧ Below w.heap.size w w' := by
  have h1 : da.size ≤ 1048576 := by omega
  have h2 : db.size ≤ 1048576 := by omega
  have HT : Hid (Tab w) := htab
  clear htab
  go_enter Tryd.func3, Tryd.ntmps3
  go_wp2_with (go_at_call 4; refine (bytes_yes _ _ _ _ _ _ _ h).mono ?_; rintro e w' ⟨rfl, rfl⟩)
  refine (normal_any da w h1).mono ?_
  rintro e w' ⟨ba, rfl, hda, rfl⟩
  cases ba with
  | false =>
    clear hda
    go_wp2
    go_ret
    exact ⟨rfl, Below.refl _ _⟩
  | true =>
    have HA : Hid (Dig da) := hda rfl
    clear hda
    go_wp2_with fail
    refine (normal_any db w h2).mono ?_
    rintro e w' ⟨bb, rfl, hdb, rfl⟩
    cases bb with
    | false =>
      clear hdb
      go_wp2
      go_ret
      exact ⟨rfl, Below.refl _ _⟩
    | true =>
      have HB : Hid (Dig db) := hdb rfl
      clear hdb
      go_wp2_with fail
      refine (zzText_any na da xa h1 a0 a1 w HT.out).mono ?_
      rintro e w1 ⟨rfl, l1⟩
      go_wp2_with fail
      refine (zzText_any nb db xb h2 b0 b1 w1 (tab_below HT.out l1)).mono ?_
      rintro e w2 ⟨rfl, l2⟩
      have l3 : Below w.heap.size w w2 := l1.trans (l2.mono l1.size)
      clear l1 l2
      go_upto_region 11 with fail
      go_cut [15] (fun s15 wx => s15 = .bool (sameB na da xa nb db xb) ∧ w2 = wx)
      case first =>
        clear HA HB HT l3
        cases na <;> cases nb <;> go_wp2_with fail
        all_goals go_meet
        all_goals (refine ⟨congrArg Value.bool ?_, rfl⟩)
        all_goals (rw [same_eq]; simp_all)
      case rest =>
        obtain ⟨rfl, rfl⟩ := hcut
        have RA : ∀ W, Calls Tryd.prog 7 #[.string (canon na da xa), .bool na, .string da, .int .i64 xa] W fun e w' => e = .returned (.bool true) ∧ W = w' := fun W => reads_any na da xa HA.out h1 a0 a1 W
        have RB : ∀ W, Calls Tryd.prog 7 #[.string (canon nb db xb), .bool nb, .string db, .int .i64 xb] W fun e w' => e = .returned (.bool true) ∧ W = w' := fun W => reads_any nb db xb HB.out h2 b0 b1 W
        have EQ : Hid (((canon na da xa).toList == (canon nb db xb).toList) = sameB na da xa nb db xb) := canon_eq HA.out HB.out
        clear HA HB
        go_wp2_with fail
        refine (RA w2).mono ?_
        rintro e w' ⟨rfl, rfl⟩
        go_wp2_with fail
        refine (RB w2).mono ?_
        rintro e w' ⟨rfl, rfl⟩
        clear RA RB
        generalize canon na da xa = CA at *
        generalize canon nb db xb = CB at *
        generalize sameB na da xa nb db xb = SB at *
        go_wp2
        go_ret
        refine ⟨congrArg (fun b => Ending.returned (.bool b)) (?_ : ((CA.toList == CB.toList) == SB) = true), l3⟩
        rw [EQ.out]
        exact beq_self_eq_true SB
end Go.Proofs.Qxb6621692aDoor.Can
