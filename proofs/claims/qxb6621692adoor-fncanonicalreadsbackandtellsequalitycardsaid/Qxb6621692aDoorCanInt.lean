/-
  THE WALK OF 'zzCanonReadInt' AT A NUMERAL.
-/
import Derived.Test.Qxb6621692aDoorRows
import Derived.WalkKit
import Derived.WalkSpells
import Derived.RowKit3
import Derived.Below
import Derived.Lib.ItoaMem
import Derived.Lib.IndexBytes
namespace Go.Proofs.Qxb6621692aDoor.Can
open Go.RowKit

theorem pow_le_digits (u : Nat) (h : 1 ≤ u) : 10 ^ (Lib.nDigits u - 1) ≤ u := by
  induction u using Nat.strongRecOn with
  | _ u ih =>
    by_cases hu : u < 10
    · rw [Lib.nDigits_small hu]; simpa using h
    · rw [Lib.nDigits_big hu]
      have h1 : 1 ≤ u / 10 := by omega
      have := ih (u / 10) (by omega) h1
      have hp := Lib.nDigits_pos (u / 10)
      rw [show Lib.nDigits (u / 10) + 1 - 1 = (Lib.nDigits (u / 10) - 1) + 1 by omega, Nat.pow_succ]
      omega

/-- What has been read when k digits of u are read. -/
def red (u k : Nat) : Nat := u / 10 ^ (Lib.nDigits u - k)
theorem red_zero (u : Nat) : red u 0 = 0 := by unfold red; exact Nat.div_eq_of_lt (Lib.lt_pow_nDigits u)
theorem red_all (u : Nat) : red u (Lib.nDigits u) = u := by unfold red; simp
theorem red_le (u k : Nat) : red u k ≤ u := Nat.div_le_self _ _
theorem red_div (u k : Nat) (h : k < Lib.nDigits u) : red u (k + 1) / 10 = red u k := by
  unfold red
  rw [Nat.div_div_eq_div_mul, ← Nat.pow_succ, show (Lib.nDigits u - (k + 1)).succ = Lib.nDigits u - k by omega]
theorem digit_is (u k : Nat) (h : k < Lib.nDigits u) (hk : k < (Lib.decDigits u).length) : ((Lib.decDigits u)[k].toNat : Int) = 48 + ((red u (k + 1) % 10 : Nat) : Int) := by
  have e : (Lib.decDigits u)[k] = Lib.dg u (Lib.nDigits u - 1 - k) := by
    simp only [Lib.decDigits_eq u, List.getElem_map, List.getElem_range]
  rw [e]
  unfold Lib.dg red
  rw [show Lib.nDigits u - 1 - k = Lib.nDigits u - (k + 1) by omega]
  have : 48 + u / 10 ^ (Lib.nDigits u - (k + 1)) % 10 < 256 := by omega
  simp [UInt8.toNat_ofNat, Nat.mod_eq_of_lt this]
theorem first_red (u : Nat) (h : 1 ≤ u) : 1 ≤ red u 1 ∧ red u 1 ≤ 9 := by
  unfold red
  have h1 := pow_le_digits u h
  have h2 := Lib.lt_pow_nDigits u
  have hp := Lib.nDigits_pos u
  have hpos : 0 < 10 ^ (Lib.nDigits u - 1) := Nat.pow_pos (by decide)
  constructor
  · exact (Nat.le_div_iff_mul_le hpos).2 (by omega)
  · have : u / 10 ^ (Lib.nDigits u - 1) < 10 := by
      rw [Nat.div_lt_iff_lt_mul hpos]
      rwa [Nat.mul_comm, ← Nat.pow_succ, show (Lib.nDigits u - 1).succ = Lib.nDigits u by omega]
    omega
theorem digits_le19 (u : Nat) (h : u ≤ 9223372036854775808) : Lib.nDigits u ≤ 19 := by
  by_cases h0 : u = 0
  · subst h0; rw [Lib.nDigits_small (by decide)]; decide
  · have h1 := pow_le_digits u (by omega)
    by_cases g : Lib.nDigits u ≤ 19
    · exact g
    · have : 10 ^ 19 ≤ 10 ^ (Lib.nDigits u - 1) := Nat.pow_le_pow_right (by decide) (by omega)
      have e : (10 : Nat) ^ 19 = 10000000000000000000 := rfl
      omega

theorem byte_at (t : ByteArray) (l : List UInt8) (h : t.data.toList = l) (k : Nat) (hk : k < t.size) (hl : k < l.length) : t[k] = l[k] := by
  subst h
  rfl

theorem no_over (R e : Int) (e0 : 0 ≤ e) (e9 : e ≤ 9) (h : 10 * R + e ≤ 9223372036854775808) : ¬ (-R < (-9223372036854775808 + (48 + e - 48)).tdiv 10) := by
  have e1 : (-9223372036854775808 + (48 + e - 48) : Int) = -(9223372036854775808 - e) := by omega
  rw [e1, Int.neg_tdiv, Int.tdiv_eq_ediv_of_nonneg (by omega)]
  omega

theorem ret_int2 {a b : Int} (c : Bool) (h : a = b) : Ending.returned (.tuple #[.int .i64 a, .bool c]) = .returned (.tuple #[.int .i64 b, .bool c]) := by rw [h]

set_option maxHeartbeats 400000 in
theorem readInt_pos (s : ByteArray) (u : Nat) (hs : s.data.toList = Lib.decDigits u) (hu : u ≤ 9223372036854775807) (w : World) :
    Calls Tryd.prog 9 #[.string s] w fun e w' => e = .returned (.tuple #[.int .i64 u, .bool true]) ∧ w = w' := by
  have hn : s.size = Lib.nDigits u := by
    rw [← Lib.decDigits_length, ← hs]; exact Array.length_toList.symm
  have h19 := digits_le19 u (by omega)
  have hp := Lib.nDigits_pos u
  have hsz : s.size ≤ 19 := by omega
  have hsz1 : 1 ≤ s.size := by omega
  have H0 : Hid (s.data.toList = Lib.decDigits u) := hs
  have HN : Hid (s.size = Lib.nDigits u) := hn
  clear hs hn hp h19
  have hz : 0 < s.size := by omega
  have hne : ¬ s = ByteArray.empty := by rintro rfl; exact absurd hz (by decide)
  have gz : ((s.size : Int) == 0) = false := by simp; omega
  have hd0 : (s[0].toNat : Int) = 48 + ((red u 1 % 10 : Nat) : Int) := by
    rw [byte_at s _ H0.out 0 hz (by rw [Lib.decDigits_length, ← HN.out]; exact hz)]
    exact digit_is u 0 (by rw [← HN.out]; exact hz) _
  have g45 : ((s[0].toNat : Int) == 45) = false := by rw [hd0]; simp; omega
  have hfirst : Hid (((s[0].toNat : Int) == 48) = false ∨ (s.size ≤ 1 ∧ ((s[0].toNat : Int) == 48) = true)) := by
    by_cases h0 : u = 0
    · right
      refine ⟨by rw [HN.out, h0, Lib.nDigits_small (by decide)]; decide, ?_⟩
      rw [hd0]
      have := red_le u 1
      simp
      omega
    · left; rw [hd0]; have := first_red u (by omega); simp; omega
  clear hd0
  have hdig : Hid (∀ k (hk : k < s.size), ∃ e : Int, (s[k].toNat : Int) = 48 + e ∧ 0 ≤ e ∧ e ≤ 9 ∧ (red u (k + 1) : Int) = 10 * (red u k : Int) + e) := by
    intro k hk
    have hk' : k < Lib.nDigits u := by rw [← HN.out]; exact hk
    refine ⟨((red u (k + 1) % 10 : Nat) : Int), ?_, by omega, by omega, ?_⟩
    · rw [byte_at s _ H0.out k hk (by rw [Lib.decDigits_length]; exact hk')]
      exact digit_is u k hk' _
    · have := red_div u k hk'
      omega
  have r0 := red_zero u
  have rall : red u s.size = u := by rw [HN.out]; exact red_all u
  have R0 : Hid (red u 0 = 0) := r0
  have RA : Hid (red u s.size = u) := rall
  clear r0 rall H0 HN
  rcases hfirst.out with g | ⟨g, g2⟩
  all_goals
    clear hfirst
    go_enter Tryd.func9, Tryd.ntmps9
    go_wp2
    clear hne gz g45 g
    go_loop [5, 6] (fun v i => ∃ k : Nat, k ≤ s.size ∧ i = .int .i64 k ∧ v = .int .i64 (-(red u k : Int))) (fun _ i => s.size - (intOf i).toNat)
    case atStart => exact ⟨0, Nat.zero_le _, rfl, by rw [R0.out]; rfl⟩
    case round =>
      obtain ⟨k, hk, rfl, rfl⟩ := hrel
      by_cases hlt : k < s.size
      · obtain ⟨e, he, e0, e9, hr⟩ := hdig.out k hlt
        have hle := red_le u (k + 1)
        have HR : Hid ((red u (k + 1) : Int) = 10 * (red u k : Int) + e) := hr
        have b0 : (0 : Int) ≤ (red u k : Int) := by omega
        have b1 : 10 * (red u k : Int) + e ≤ 9223372036854775807 := by omega
        have htd := no_over (red u k : Int) e e0 e9 (by omega)
        clear hr hle
        go_wp2
        go_round
        case rel => exact ⟨k + 1, by omega, by go_num, by rw [HR.out]; go_num⟩
        case measure => simp [intOf]; omega
      · have ek : k = s.size := by omega
        subst ek
        have hm : ((-(red u s.size : Int)) == -9223372036854775808) = false := by rw [RA.out]; simp; omega
        have hm0 : (0 : Int) ≤ (red u s.size : Int) := by omega
        have hm1 : (red u s.size : Int) ≤ 9223372036854775807 := by rw [RA.out]; omega
        go_wp2
        go_ret2
        exact ⟨ret_int2 true (by rw [RA.out]), rfl⟩

set_option maxHeartbeats 400000 in
theorem readInt_neg (s : ByteArray) (u : Nat) (hs : s.data.toList = 45 :: Lib.decDigits u) (hu1 : 1 ≤ u) (hu : u ≤ 9223372036854775808) (w : World) :
    Calls Tryd.prog 9 #[.string s] w fun e w' => e = .returned (.tuple #[.int .i64 (-(u : Int)), .bool true]) ∧ w = w' := by
  have hss : s.size = Lib.nDigits u + 1 := by
    have : s.data.toList.length = s.size := Array.length_toList
    rw [← this, hs, List.length_cons, Lib.decDigits_length]
  obtain ⟨t, ht, htl⟩ : ∃ t, t = s.extract 1 s.size ∧ t.data.toList = Lib.decDigits u := ⟨_, rfl, by rw [Lib.extract_to_end, hs]; rfl⟩
  have hsl : ∀ w, (Instr.slice 9 (.string s) (some (.int .i64 1)) none none).run Tryd.prog w = .ok (.string t) w := fun w => by
    rw [run_slice_string_l (P := Tryd.prog) (t := 9) (s := s) (ht := Tryd.underlying9) (kl := .i64) (l := 1) (h0 := by decide) (h1 := by omega), ht]; rfl
  have z0 : 0 < s.size := by omega
  have g45 : ((s[0].toNat : Int) == 45) = true := by
    rw [byte_at s _ hs 0 z0 (by simp)]; rfl
  have zi : (0 : Int) < (s.size : Int) := by omega
  have hne0 : ¬ s = ByteArray.empty := by rintro rfl; exact absurd z0 (by decide)
  have hs20 : s.size ≤ 20 := by have := digits_le19 u hu; omega
  have hn : t.size = Lib.nDigits u := by
    rw [← Lib.decDigits_length, ← htl]; exact Array.length_toList.symm
  have h19 := digits_le19 u hu
  have hp := Lib.nDigits_pos u
  have hsz : t.size ≤ 19 := by omega
  have hsz1 : 1 ≤ t.size := by omega
  have H0 : Hid (t.data.toList = Lib.decDigits u) := htl
  have HN : Hid (t.size = Lib.nDigits u) := hn
  clear htl hn hp h19 ht hss hs
  have hz : 0 < t.size := by omega
  have hne : ¬ t = ByteArray.empty := by rintro rfl; exact absurd hz (by decide)
  have gz : ((t.size : Int) == 0) = false := by simp; omega
  have hd0 : (t[0].toNat : Int) = 48 + ((red u 1 % 10 : Nat) : Int) := by
    rw [byte_at t _ H0.out 0 hz (by rw [Lib.decDigits_length, ← HN.out]; exact hz)]
    exact digit_is u 0 (by rw [← HN.out]; exact hz) _
  have g48 : ((t[0].toNat : Int) == 48) = false := by rw [hd0]; have := first_red u hu1; simp; omega
  clear hd0
  have hdig : Hid (∀ k (hk : k < t.size), ∃ e : Int, (t[k].toNat : Int) = 48 + e ∧ 0 ≤ e ∧ e ≤ 9 ∧ (red u (k + 1) : Int) = 10 * (red u k : Int) + e) := by
    intro k hk
    have hk' : k < Lib.nDigits u := by rw [← HN.out]; exact hk
    refine ⟨((red u (k + 1) % 10 : Nat) : Int), ?_, by omega, by omega, ?_⟩
    · rw [byte_at t _ H0.out k hk (by rw [Lib.decDigits_length]; exact hk')]
      exact digit_is u k hk' _
    · have := red_div u k hk'
      omega
  have R0 : Hid (red u 0 = 0) := red_zero u
  have RA : Hid (red u t.size = u) := by show red u t.size = u; rw [HN.out]; exact red_all u
  clear H0 HN
  go_enter Tryd.func9, Tryd.ntmps9
  go_wp2
  clear hne gz g45 g48 hsl hne0
  go_loop [5, 6] (fun v i => ∃ k : Nat, k ≤ t.size ∧ i = .int .i64 k ∧ v = .int .i64 (-(red u k : Int))) (fun _ i => t.size - (intOf i).toNat)
  case atStart => exact ⟨0, Nat.zero_le _, rfl, by rw [R0.out]; rfl⟩
  case round =>
    obtain ⟨k, hk, rfl, rfl⟩ := hrel
    by_cases hlt : k < t.size
    · obtain ⟨e, he, e0, e9, hr⟩ := hdig.out k hlt
      have hle := red_le u (k + 1)
      have HR : Hid ((red u (k + 1) : Int) = 10 * (red u k : Int) + e) := hr
      have b0 : (0 : Int) ≤ (red u k : Int) := by omega
      have b1 : 10 * (red u k : Int) + e ≤ 9223372036854775808 := by omega
      have htd := no_over (red u k : Int) e e0 e9 b1
      clear hr hle
      go_wp2
      go_round
      case rel => exact ⟨k + 1, by omega, by go_num, by rw [HR.out]; go_num⟩
      case measure => simp [intOf]; omega
    · have ek : k = t.size := by omega
      subst ek
      go_wp2
      go_ret2
      exact ⟨ret_int2 true (by rw [RA.out]), rfl⟩

/-- At the numeral of any int64. -/
theorem readInt_any (s : ByteArray) (x : Int) (hs : s.data.toList = Lib.itoa x) (h0 : -9223372036854775808 ≤ x) (h1 : x ≤ 9223372036854775807) (w : World) :
    Calls Tryd.prog 9 #[.string s] w fun e w' => e = .returned (.tuple #[.int .i64 x, .bool true]) ∧ w = w' := by
  by_cases h : x < 0
  · obtain ⟨u, rfl⟩ : ∃ u : Nat, x = -(u : Int) := ⟨x.natAbs, by omega⟩
    exact readInt_neg s u (by rw [hs, Lib.itoa_neg u (by omega)]) (by omega) (by omega) w
  · obtain ⟨u, rfl⟩ := Int.eq_ofNat_of_zero_le (a := x) (by omega)
    exact readInt_pos s u (by rw [hs, Lib.itoa_nonneg]) (by omega) w

end Go.Proofs.Qxb6621692aDoor.Can
