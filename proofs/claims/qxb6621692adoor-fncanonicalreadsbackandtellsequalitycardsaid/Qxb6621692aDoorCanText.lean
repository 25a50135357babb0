/-
  THE WALKS OF 'canonical' AND 'ZZCanonical'.
-/
import Derived.Test.Qxb6621692aDoorCanRead
import Derived.Test.Qxb6621692aDoorShelf
import Derived.WalkSmall
import Derived.Lib.SmallJoins
import Derived.Deep.RegionWith
import Derived.Deep.RegionHeld3
namespace Go.Proofs.Qxb6621692aDoor.Can
open Go.RowKit Go.Sort

/-- The library's table of powers of ten, as a walk is told of it. -/
def Tab (w : World) : Prop := Lib.TabIs Tryd.prog w (Rows.fnCanonicalReadsBackAndTellsEqualityRow.named.headD default) .u64 Lib.pow10Tab
theorem tabVar : Tryd.prog.globalNamed (Rows.fnCanonicalReadsBackAndTellsEqualityRow.named.headD default) = some 0 := by kernel_rfl
theorem tab_below {w w' : World} (h : Tab w) (hb : Below w.heap.size w w') : Tab w' := Joins.tab_stays tabVar h hb (Nat.le_refl _)

theorem below_grow (w : World) (k : Nat) (os : Array Obj) : Below w.heap.size w (grow (w.drewN k) os) :=
  ⟨rfl, rfl, rfl, by simp [grow], fun i hi => by
    have : i < (w.drewN k).heap.size := hi
    show ((w.drewN k).heap ++ os)[i]? = _
    rw [Array.getElem?_append_left this]
    rfl⟩

theorem fmt_any (x : Int) (h0 : -9223372036854775808 ≤ x) (h1 : x ≤ 9223372036854775807) (w : World) (htab : Tab w) :
    Calls Tryd.prog 10 #[.int .i64 x, .int .i64 10] w fun e w' => e = .returned (.string ⟨(Lib.itoa x).toArray⟩) ∧ Below w.heap.size w w' :=
  (Tryd.strconv_FormatInt_10 x h0 h1 w htab).mono fun _ _ ⟨he, k, os, hw⟩ => ⟨he, hw ▸ below_grow w k os⟩

theorem ret_str {a b : ByteArray} (h : a = b) : Ending.returned (.string a) = .returned (.string b) := by rw [h]
theorem cat_pos (d : ByteArray) (l : List UInt8) : (⟨#[]⟩ : ByteArray) ++ d ++ (⟨#[101]⟩ : ByteArray) ++ (⟨l.toArray⟩ : ByteArray) = (⟨(d.data.toList ++ 101 :: l).toArray⟩ : ByteArray) := by
  apply ByteArray.ext
  simp [ByteArray.data_append]
theorem cat_neg (d : ByteArray) (l : List UInt8) : (⟨#[45]⟩ : ByteArray) ++ d ++ (⟨#[101]⟩ : ByteArray) ++ (⟨l.toArray⟩ : ByteArray) = (⟨(45 :: (d.data.toList ++ 101 :: l)).toArray⟩ : ByteArray) := by
  apply ByteArray.ext
  simp [ByteArray.data_append]

set_option maxHeartbeats 1000000 in
theorem text_pos (d : ByteArray) (x : Int) (hz : 0 < d.size) (hd2 : d.size ≤ 1048576) (h0 : -9223372036854775808 ≤ x) (h1 : x ≤ 9223372036854775807) (w : World) (htab : Tab w) :
    Calls Tryd.prog 8 #[.agg #[.bool false, .string d, .int .i64 x]] w fun e w' => e = .returned (.string ⟨(txt false d x).toArray⟩) ∧ Below w.heap.size w w' := by
  have hb0 : Below w.heap.size w (w.alloc (.cells #[.bool false, .string d, .int .i64 x] 27)) := (Below.refl _ _).alloc (Nat.le_refl _) _
  have HT : Hid (Tab w) := htab
  have hE := not_empty d hz
  obtain ⟨X, hX⟩ : ∃ X : ByteArray, X = ⟨(Lib.itoa x).toArray⟩ := ⟨_, rfl⟩
  have hXs : X.size ≤ 21 := by rw [hX, ← size_len]; have := Lib.itoa_length_le x h0 h1; simpa using this
  have hfmt : ∀ W, Tab W → Calls Tryd.prog 10 #[.int .i64 x, .int .i64 10] W fun e w' => e = .returned (.string X) ∧ Below W.heap.size W w' := fun W hW => by rw [hX]; exact fmt_any x h0 h1 W hW
  have HX : Hid (X = ⟨(Lib.itoa x).toArray⟩) := hX
  have p1 : ¬ 9223372036854775807 < d.size := by omega
  have p2 : ¬ 9223372036854775807 < d.size + 1 := by omega
  have p3 : ¬ 9223372036854775807 < d.size + 1 + X.size := by omega
  clear htab hX h0 h1
  go_enter Tryd.func8, Tryd.ntmps8
  go_wp2
  go_region_with (go_at_call 10; refine (hfmt _ ?_).mono ?_; exact tab_below HT.out hb0.drew; rintro e w2 ⟨rfl, b2⟩; have c1 : w2.cell? ⟨w.heap.size, 1, none⟩ = some (.string d) := (b2.cell (by simp)).trans (by simp))
  all_goals
    go_wp2
    go_ret
    exact ⟨ret_str (a := (⟨#[]⟩ : ByteArray) ++ d ++ (⟨#[101]⟩ : ByteArray) ++ X) (b := ⟨(txt false d x).toArray⟩) (by rw [HX.out]; exact cat_pos d _), hb0.drew.trans (b2.mono (by simp))⟩

set_option maxHeartbeats 1000000 in
theorem text_neg (d : ByteArray) (x : Int) (hz : 0 < d.size) (hd2 : d.size ≤ 1048576) (h0 : -9223372036854775808 ≤ x) (h1 : x ≤ 9223372036854775807) (w : World) (htab : Tab w) :
    Calls Tryd.prog 8 #[.agg #[.bool true, .string d, .int .i64 x]] w fun e w' => e = .returned (.string ⟨(txt true d x).toArray⟩) ∧ Below w.heap.size w w' := by
  have hb0 : Below w.heap.size w (w.alloc (.cells #[.bool true, .string d, .int .i64 x] 27)) := (Below.refl _ _).alloc (Nat.le_refl _) _
  have HT : Hid (Tab w) := htab
  have hE := not_empty d hz
  obtain ⟨X, hX⟩ : ∃ X : ByteArray, X = ⟨(Lib.itoa x).toArray⟩ := ⟨_, rfl⟩
  have hXs : X.size ≤ 21 := by rw [hX, ← size_len]; have := Lib.itoa_length_le x h0 h1; simpa using this
  have hfmt : ∀ W, Tab W → Calls Tryd.prog 10 #[.int .i64 x, .int .i64 10] W fun e w' => e = .returned (.string X) ∧ Below W.heap.size W w' := fun W hW => by rw [hX]; exact fmt_any x h0 h1 W hW
  have HX : Hid (X = ⟨(Lib.itoa x).toArray⟩) := hX
  have p1 : ¬ 9223372036854775807 < 1 + d.size := by omega
  have p2 : ¬ 9223372036854775807 < 1 + d.size + 1 := by omega
  have p3 : ¬ 9223372036854775807 < 1 + d.size + 1 + X.size := by omega
  clear htab hX h0 h1
  go_enter Tryd.func8, Tryd.ntmps8
  go_wp2
  go_region_with (go_at_call 10; refine (hfmt _ ?_).mono ?_; exact tab_below HT.out hb0.drew; rintro e w2 ⟨rfl, b2⟩; have c1 : w2.cell? ⟨w.heap.size, 1, none⟩ = some (.string d) := (b2.cell (by simp)).trans (by simp))
  all_goals
    go_wp2
    go_ret
    exact ⟨ret_str (a := (⟨#[45]⟩ : ByteArray) ++ d ++ (⟨#[101]⟩ : ByteArray) ++ X) (b := ⟨(txt true d x).toArray⟩) (by rw [HX.out]; exact cat_neg d _), hb0.drew.trans (b2.mono (by simp))⟩

theorem text_zero (neg : Bool) (x : Int) (w : World) :
    Calls Tryd.prog 8 #[.agg #[.bool neg, .string ByteArray.empty, .int .i64 x]] w fun e w' => e = .returned (.string ⟨#[48]⟩) ∧ Below w.heap.size w w' := by
  go_enter Tryd.func8, Tryd.ntmps8
  go_wp2
  go_ret
  exact ⟨rfl, (Below.refl _ _).alloc (Nat.le_refl _) _⟩

theorem text_any (neg : Bool) (d : ByteArray) (x : Int) (hd2 : d.size ≤ 1048576) (h0 : -9223372036854775808 ≤ x) (h1 : x ≤ 9223372036854775807) (w : World) (htab : Tab w) :
    Calls Tryd.prog 8 #[.agg #[.bool neg, .string d, .int .i64 x]] w fun e w' => e = .returned (.string (canon neg d x)) ∧ Below w.heap.size w w' := by
  unfold canon
  by_cases hz : d.size = 0
  · rw [if_pos hz]
    obtain rfl := ByteArray.size_eq_zero_iff.1 hz
    exact text_zero neg x w
  · rw [if_neg hz]
    cases neg with
    | false => exact text_pos d x (by omega) hd2 h0 h1 w htab
    | true => exact text_neg d x (by omega) hd2 h0 h1 w htab

theorem zzText_any (neg : Bool) (d : ByteArray) (x : Int) (hd2 : d.size ≤ 1048576) (h0 : -9223372036854775808 ≤ x) (h1 : x ≤ 9223372036854775807) (w : World) (htab : Tab w) :
    Calls Tryd.prog 6 #[.bool neg, .string d, .int .i64 x] w fun e w' => e = .returned (.string (canon neg d x)) ∧ Below w.heap.size w w' := by
  have HT : Hid (Tab w) := htab
  clear htab
  go_enter Tryd.func6, Tryd.ntmps6
  go_wp2_with (go_at_call 8; refine (text_any neg d x hd2 h0 h1 _ HT.out).mono ?_; rintro e w' ⟨rfl, hb⟩)
  go_ret
  exact ⟨rfl, hb⟩

end Go.Proofs.Qxb6621692aDoor.Can
