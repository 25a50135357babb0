/-
  THE WALKS OF 'zzCanonNormal' AND 'zzCanonReadsAs'.
-/
import Derived.Test.Qxb6621692aDoorCanInt
import Derived.Lib.ItoaLen
namespace Go.Proofs.Qxb6621692aDoor.Can
open Go.RowKit

/-- Decimal digits alone. -/
def Dig (d : ByteArray) : Prop := ∀ j (h : j < d.size), 48 ≤ (d[j].toNat : Int) ∧ (d[j].toNat : Int) ≤ 57

theorem not_empty (d : ByteArray) (hz : 0 < d.size) : d.toList.isEmpty = false := by
  rw [ByteArray.toList_eq]
  cases h : d.data.toList with
  | nil =>
    have : d.data.toList.length = d.size := Array.length_toList
    rw [h] at this
    simp at this
    omega
  | cons a l => rfl

/-- What 'zzCanonNormal' leaves, behind a name that the walk does not open. -/
def NormPost (d : ByteArray) (e : Ending) (w w' : World) : Prop := ∃ b, e = .returned (.bool b) ∧ (b = true → Dig d) ∧ w = w'
theorem norm_no {d : ByteArray} {e : Ending} {w : World} (h : e = .returned (.bool false)) : NormPost d e w w := ⟨false, h, (fun h => by cases h), rfl⟩
theorem norm_yes {d : ByteArray} {e : Ending} {w : World} (h : e = .returned (.bool true)) (hd : Dig d) : NormPost d e w w := ⟨true, h, fun _ => hd, rfl⟩

set_option maxHeartbeats 400000 in
theorem normal_any (d : ByteArray) (w : World) (hd : d.size ≤ 1048576) :
    Calls Tryd.prog 5 #[.string d] w fun e w' => NormPost d e w w' := by
  by_cases h0 : d = ByteArray.empty
  · subst h0
    go_enter Tryd.func5, Tryd.ntmps5
    go_wp2
    go_ret
    exact norm_yes rfl (fun j h => absurd h (by simp))
  · have hz : 0 < d.size := by
      by_cases g : d.size = 0
      · exact absurd (ByteArray.size_eq_zero_iff.1 g) h0
      · omega
    have hb : d.size - 1 < d.size := by omega
    have hzi : (0 : Int) < (d.size : Int) := by omega
    have e1 := not_empty d hz
    go_enter Tryd.func5, Tryd.ntmps5
    go_wp2
    · go_ret
      exact norm_no rfl
    · go_ret
      exact norm_no rfl
    · go_loop [3] (fun i => ∃ k : Nat, k ≤ d.size ∧ i = .int .i64 k ∧ Hid (∀ j (h : j < d.size), j < k → 48 ≤ (d[j].toNat : Int) ∧ (d[j].toNat : Int) ≤ 57)) (fun i => d.size - (intOf i).toNat)
      case atStart => exact ⟨0, Nat.zero_le _, rfl, fun j _ h => absurd h (by omega)⟩
      case round =>
        obtain ⟨k, hk, rfl, hin⟩ := hrel
        by_cases hlt : k < d.size
        · by_cases g1 : (d[k].toNat : Int) < 48
          · go_wp2
            go_ret
            exact norm_no rfl
          · by_cases g2 : 57 < (d[k].toNat : Int)
            · go_wp2
              go_ret
              exact norm_no rfl
            · have HG : Hid (48 ≤ (d[k].toNat : Int) ∧ (d[k].toNat : Int) ≤ 57) := ⟨by omega, by omega⟩
              go_wp2
              go_round
              case rel =>
                refine ⟨k + 1, by omega, by go_num, fun j h hj => ?_⟩
                by_cases e : j = k
                · subst e; exact HG.out
                · exact hin.out j h (by omega)
              case measure => simp [intOf]; omega
        · have e : k = d.size := by omega
          subst e
          go_wp2
          go_ret
          exact norm_yes rfl (fun j h => hin.out j h h)

/-- The text of a number that is not zero. -/
def txt (neg : Bool) (d : ByteArray) (x : Int) : List UInt8 := (if neg then [45] else []) ++ (d.data.toList ++ 101 :: Lib.itoa x)

theorem size_len (s : ByteArray) : s.data.toList.length = s.size := Array.length_toList

set_option maxHeartbeats 400000 in
theorem reads_zero (neg : Bool) (x : Int) (w : World) :
    Calls Tryd.prog 7 #[.string ⟨#[48]⟩, .bool neg, .string ByteArray.empty, .int .i64 x] w fun e w' => e = .returned (.bool true) ∧ w = w' := by
  go_enter Tryd.func7, Tryd.ntmps7
  go_wp2
  go_ret
  exact ⟨rfl, rfl⟩

theorem t_facts (t d : ByteArray) (x : Int) (ht : t.data.toList = d.data.toList ++ 101 :: Lib.itoa x) (hd : Dig d) :
    t.size = d.size + 1 + (Lib.itoa x).length ∧ (∀ k (h : k < t.size), k < d.size → ((t[k].toNat : Int) != 101) = true ∧ ((t[k].toNat : Int) == 45) = false) ∧
    (∀ h : d.size < t.size, ((t[d.size].toNat : Int) != 101) = false) ∧ (t.extract (d.size + 1) t.size).data.toList = Lib.itoa x ∧ ((t.extract 0 d.size).toList == d.toList) = true := by
  have hsz : t.size = d.size + 1 + (Lib.itoa x).length := by
    rw [← size_len t, ht, List.length_append, size_len d, List.length_cons]; omega
  refine ⟨hsz, fun k h hk => ?_, fun h => ?_, ?_, ?_⟩
  · have hl : k < (d.data.toList ++ 101 :: Lib.itoa x).length := by rw [← ht, size_len]; exact h
    have e : t[k] = d[k] := by
      rw [byte_at t _ ht k h hl, List.getElem_append_left (by rw [size_len]; exact hk)]
      rfl
    have := hd k hk
    rw [e]
    constructor
    · simp; omega
    · simp; omega
  · have hl : d.size < (d.data.toList ++ 101 :: Lib.itoa x).length := by rw [← ht, size_len]; exact h
    have e : t[d.size] = 101 := by
      rw [byte_at t _ ht d.size h hl, List.getElem_append_right (by rw [size_len]; exact Nat.le_refl _)]
      simp
    rw [e]
    rfl
  · rw [Lib.extract_to_end, ht]
    rw [show d.size + 1 = d.data.toList.length + 1 by rw [size_len], List.drop_append]
    simp
  · rw [ByteArray.toList_eq, ByteArray.toList_eq, Lib.extract_data, ht]
    simp

set_option maxHeartbeats 400000 in
theorem reads_pos (s d : ByteArray) (x : Int) (hs : s.data.toList = d.data.toList ++ 101 :: Lib.itoa x) (hd : Dig d) (hz : 0 < d.size) (hd2 : d.size ≤ 1048576) (h0 : -9223372036854775808 ≤ x) (h1 : x ≤ 9223372036854775807) (w : World) :
    Calls Tryd.prog 7 #[.string s, .bool false, .string d, .int .i64 x] w fun e w' => e = .returned (.bool true) ∧ w = w' := by
  obtain ⟨f1, f2, f3, f4, f5⟩ := t_facts s d x hs hd
  have hi := Lib.itoa_length_le x h0 h1
  have hlt : d.size < s.size := by omega
  have hs0 : 0 < s.size := by omega
  have hs1 : s.size ≤ 1048600 := by omega
  have hE := not_empty d hz
  have g45 := (f2 0 hs0 hz).2
  have g101 := f3 hlt
  have zi : (0 : Int) < (s.size : Int) := by omega
  have hne0 : ¬ s = ByteArray.empty := by rintro rfl; exact absurd hs0 (by decide)
  have ne1 : ((d.size : Int) == (s.size : Int)) = false := by simp; omega
  have F2 : Hid (∀ k (h : k < s.size), k < d.size → ((s[k].toNat : Int) != 101) = true ∧ ((s[k].toNat : Int) == 45) = false) := f2
  have F4 : Hid ((s.extract (d.size + 1) s.size).data.toList = Lib.itoa x) := f4
  clear f1 f2 f3 f4 hs hd hi
  go_enter Tryd.func7, Tryd.ntmps7
  go_wp2
  go_loop [10] (fun i => ∃ k : Nat, k ≤ d.size ∧ i = .int .i64 k) (fun i => d.size - (intOf i).toNat)
  case atStart => exact ⟨0, Nat.zero_le _, rfl⟩
  case round =>
    obtain ⟨k, hk, rfl⟩ := hrel
    by_cases hkd : k < d.size
    · have hks : k < s.size := by omega
      have gk := (F2.out k hks hkd).1
      go_wp2
      go_round
      case rel => exact ⟨k + 1, by omega, by go_num⟩
      case measure => simp [intOf]; omega
    · have e : k = d.size := by omega
      subst e
      go_wp2_with fail
      refine (readInt_any (s.extract (d.size + 1) s.size) x F4.out h0 h1 w).mono ?_
      rintro e w' ⟨rfl, rfl⟩
      clear g101 g45 ne1
      go_wp2
      go_ret
      exact ⟨rfl, rfl⟩

set_option maxHeartbeats 400000 in
theorem reads_neg (s d : ByteArray) (x : Int) (hs : s.data.toList = 45 :: (d.data.toList ++ 101 :: Lib.itoa x)) (hd : Dig d) (hz : 0 < d.size) (hd2 : d.size ≤ 1048576) (h0 : -9223372036854775808 ≤ x) (h1 : x ≤ 9223372036854775807) (w : World) :
    Calls Tryd.prog 7 #[.string s, .bool true, .string d, .int .i64 x] w fun e w' => e = .returned (.bool true) ∧ w = w' := by
  obtain ⟨t, ht, htl⟩ : ∃ t, t = s.extract 1 s.size ∧ t.data.toList = d.data.toList ++ 101 :: Lib.itoa x := ⟨_, rfl, by rw [Lib.extract_to_end, hs]; rfl⟩
  obtain ⟨f1, f2, f3, f4, f5⟩ := t_facts t d x htl hd
  have hss : s.size = t.size + 1 := by rw [← size_len s, hs, List.length_cons, ← htl, size_len]
  have hsl : ∀ w, (Instr.slice 9 (.string s) (some (.int .i64 1)) none none).run Tryd.prog w = .ok (.string t) w := fun w => by
    rw [run_slice_string_l (P := Tryd.prog) (t := 9) (s := s) (ht := Tryd.underlying9) (kl := .i64) (l := 1) (h0 := by decide) (h1 := by omega), ht]; rfl
  have hi := Lib.itoa_length_le x h0 h1
  have hlt : d.size < t.size := by omega
  have ht0 : 0 < t.size := by omega
  have ht1 : t.size ≤ 1048600 := by omega
  have hs0 : 0 < s.size := by omega
  have hs1 : s.size ≤ 1048601 := by omega
  have hE := not_empty d hz
  have g45 : ((s[0].toNat : Int) == 45) = true := by
    rw [byte_at s _ hs 0 hs0 (by simp)]; rfl
  have g101 := f3 hlt
  have zi : (0 : Int) < (s.size : Int) := by omega
  have hne0 : ¬ s = ByteArray.empty := by rintro rfl; exact absurd hs0 (by decide)
  have ne1 : ((d.size : Int) == (t.size : Int)) = false := by simp; omega
  have F2 : Hid (∀ k (h : k < t.size), k < d.size → ((t[k].toNat : Int) != 101) = true ∧ ((t[k].toNat : Int) == 45) = false) := f2
  have F4 : Hid ((t.extract (d.size + 1) t.size).data.toList = Lib.itoa x) := f4
  clear f1 f2 f3 f4 hs hd hi ht htl hss
  go_enter Tryd.func7, Tryd.ntmps7
  go_wp2
  clear hsl g45 hne0
  go_loop [10] (fun i => ∃ k : Nat, k ≤ d.size ∧ i = .int .i64 k) (fun i => d.size - (intOf i).toNat)
  case atStart => exact ⟨0, Nat.zero_le _, rfl⟩
  case round =>
    obtain ⟨k, hk, rfl⟩ := hrel
    by_cases hkd : k < d.size
    · have hks : k < t.size := by omega
      have gk := (F2.out k hks hkd).1
      go_wp2
      go_round
      case rel => exact ⟨k + 1, by omega, by go_num⟩
      case measure => simp [intOf]; omega
    · have e : k = d.size := by omega
      subst e
      go_wp2_with fail
      refine (readInt_any (t.extract (d.size + 1) t.size) x F4.out h0 h1 w).mono ?_
      rintro e w' ⟨rfl, rfl⟩
      clear g101 ne1
      go_wp2
      go_ret
      exact ⟨rfl, rfl⟩

/-- The canonical text of any number whose digits are digits. -/
def canon (neg : Bool) (d : ByteArray) (x : Int) : ByteArray := if d.size = 0 then ⟨#[48]⟩ else ⟨(txt neg d x).toArray⟩

/-- It reads back. -/
theorem reads_any (neg : Bool) (d : ByteArray) (x : Int) (hd : Dig d) (hd2 : d.size ≤ 1048576) (h0 : -9223372036854775808 ≤ x) (h1 : x ≤ 9223372036854775807) (w : World) :
    Calls Tryd.prog 7 #[.string (canon neg d x), .bool neg, .string d, .int .i64 x] w fun e w' => e = .returned (.bool true) ∧ w = w' := by
  unfold canon
  by_cases hz : d.size = 0
  · rw [if_pos hz]
    obtain rfl := ByteArray.size_eq_zero_iff.1 hz
    exact reads_zero neg x w
  · rw [if_neg hz]
    cases neg with
    | false => exact reads_pos _ d x (by simp [txt]) hd (by omega) hd2 h0 h1 w
    | true => exact reads_neg _ d x (by simp [txt]) hd (by omega) hd2 h0 h1 w

end Go.Proofs.Qxb6621692aDoor.Can
