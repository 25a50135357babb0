/-
  THE PLAIN LAW: two canonical texts are equal exactly where the numbers are the same. No Go in sight.
-/
import Derived.Test.Qxb6621692aDoorCanRead
namespace Go.Proofs.Qxb6621692aDoor.Can

/-- The number that a row of digits writes. -/
def val (l : List UInt8) : Nat := l.foldl (fun v c => v * 10 + (c.toNat - 48)) 0
theorem val_snoc (l : List UInt8) (c : UInt8) : val (l ++ [c]) = val l * 10 + (c.toNat - 48) := by simp [val, List.foldl_append]
theorem digit_toNat (k : Nat) (h : k < 10) : (UInt8.ofNat (48 + k)).toNat = 48 + k := by
  simp [UInt8.toNat_ofNat]; omega
theorem val_dec (u : Nat) : val (Lib.decDigits u) = u := by
  induction u using Nat.strongRecOn with
  | _ u ih =>
    rw [Lib.decDigits]
    by_cases h : u < 10
    · rw [dif_pos h]
      have := digit_toNat u h
      simp only [val, List.foldl_cons, List.foldl_nil]
      omega
    · rw [dif_neg h, val_snoc, ih (u / 10) (by omega), digit_toNat (u % 10) (by omega)]
      omega
theorem dec_ge (u : Nat) : ∀ c ∈ Lib.decDigits u, 48 ≤ c.toNat := by
  induction u using Nat.strongRecOn with
  | _ u ih =>
    intro c hc
    rw [Lib.decDigits] at hc
    by_cases h : u < 10
    · rw [dif_pos h] at hc
      obtain rfl := List.mem_singleton.1 hc
      rw [digit_toNat u h]; omega
    · rw [dif_neg h] at hc
      rcases List.mem_append.1 hc with g | g
      · exact ih (u / 10) (by omega) c g
      · obtain rfl := List.mem_singleton.1 g
        rw [digit_toNat (u % 10) (by omega)]; omega
theorem itoa_inj {x y : Int} (h : Lib.itoa x = Lib.itoa y) : x = y := by
  unfold Lib.itoa at h
  by_cases hx : x < 0
  · by_cases hy : y < 0
    · rw [if_pos hx, if_pos hy] at h
      have := congrArg val (List.cons.inj h).2
      rw [val_dec, val_dec] at this
      omega
    · rw [if_pos hx, if_neg hy] at h
      have := dec_ge y.toNat 45 (by rw [← h]; simp)
      exact absurd this (by decide)
  · by_cases hy : y < 0
    · rw [if_neg hx, if_pos hy] at h
      have := dec_ge x.toNat 45 (by rw [h]; simp)
      exact absurd this (by decide)
    · rw [if_neg hx, if_neg hy] at h
      have := congrArg val h
      rw [val_dec, val_dec] at this
      omega

theorem split_e : ∀ (l1 l2 r1 r2 : List UInt8), (101 : UInt8) ∉ l1 → (101 : UInt8) ∉ l2 → l1 ++ 101 :: r1 = l2 ++ 101 :: r2 → l1 = l2 ∧ r1 = r2
  | [], [], r1, r2, _, _, h => ⟨rfl, (List.cons.inj h).2⟩
  | [], b :: l2, r1, r2, _, h2, h => absurd (List.mem_cons.2 (Or.inl (List.cons.inj h).1)) h2
  | a :: l1, [], r1, r2, h1, _, h => absurd (List.mem_cons.2 (Or.inl (List.cons.inj h).1.symm)) h1
  | a :: l1, b :: l2, r1, r2, h1, h2, h => by
    obtain ⟨e, t⟩ := List.cons.inj h
    obtain ⟨e2, e3⟩ := split_e l1 l2 r1 r2 (fun g => h1 (List.mem_cons.2 (Or.inr g))) (fun g => h2 (List.mem_cons.2 (Or.inr g))) t
    exact ⟨by rw [e, e2], e3⟩

theorem dig_mem {d : ByteArray} (hd : Dig d) : ∀ c ∈ d.data.toList, 48 ≤ c.toNat ∧ c.toNat ≤ 57 := by
  intro c hc
  obtain ⟨i, hi, rfl⟩ := List.mem_iff_getElem.1 hc
  have h : i < d.size := by rw [← size_len]; exact hi
  have := hd i h
  have e : d.data.toList[i] = d[i] := rfl
  rw [e]
  omega
theorem no_e {d : ByteArray} (hd : Dig d) : (101 : UInt8) ∉ d.data.toList := fun h => absurd (dig_mem hd 101 h).2 (by decide)
theorem no_minus {d : ByteArray} (hd : Dig d) : (45 : UInt8) ∉ d.data.toList := fun h => absurd (dig_mem hd 45 h).1 (by decide)

theorem bytes_ext {a b : ByteArray} (h : a.data.toList = b.data.toList) : a = b := ByteArray.ext (Array.toList_inj.1 h)

theorem sign_off {d d' : ByteArray} {r r' : List UInt8} (hd : Dig d') (hz : 0 < d'.size) : ¬ (45 :: (d.data.toList ++ r) = d'.data.toList ++ r') := by
  intro h
  cases hl : d'.data.toList with
  | nil =>
    have := size_len d'
    rw [hl] at this
    simp at this
    omega
  | cons a l =>
    rw [hl] at h
    have : (45 : UInt8) ∈ d'.data.toList := by rw [hl, (List.cons.inj h).1]; simp
    exact no_minus hd this

theorem txt_inj {na nb : Bool} {da db : ByteArray} {xa xb : Int} (ha : Dig da) (hb : Dig db) (za : 0 < da.size) (zb : 0 < db.size) (h : txt na da xa = txt nb db xb) : na = nb ∧ da = db ∧ xa = xb := by
  have core : da.data.toList ++ 101 :: Lib.itoa xa = db.data.toList ++ 101 :: Lib.itoa xb → da = db ∧ xa = xb := fun g => by
    obtain ⟨e1, e2⟩ := split_e _ _ _ _ (no_e ha) (no_e hb) g
    exact ⟨bytes_ext e1, itoa_inj e2⟩
  unfold txt at h
  cases na <;> cases nb <;> simp only [if_true, if_false, List.nil_append, List.cons_append, Bool.false_eq_true] at h
  · exact ⟨rfl, core h⟩
  · exact absurd h.symm (sign_off ha za)
  · exact absurd h (sign_off hb zb)
  · exact ⟨rfl, core (List.cons.inj h).2⟩

/-- Are the two numbers the same, as the law asks it? -/
def sameB (na : Bool) (da : ByteArray) (xa : Int) (nb : Bool) (db : ByteArray) (xb : Int) : Bool :=
  decide ((da.size = 0 ∧ db.size = 0) ∨ (0 < da.size ∧ na = nb ∧ da.toList = db.toList ∧ xa = xb))

theorem canon_eq {na nb : Bool} {da db : ByteArray} {xa xb : Int} (ha : Dig da) (hb : Dig db) :
    ((canon na da xa).toList == (canon nb db xb).toList) = sameB na da xa nb db xb := by
  unfold sameB canon
  rw [ByteArray.toList_eq, ByteArray.toList_eq, ByteArray.toList_eq, ByteArray.toList_eq]
  have key : ∀ n (d : ByteArray) x, ¬ ([48] : List UInt8) = txt n d x := fun n d x g => by
    have : (101 : UInt8) ∈ txt n d x := by unfold txt; simp
    rw [← g] at this
    simp at this
  by_cases za : da.size = 0
  · rw [if_pos za]
    by_cases zb : db.size = 0
    · rw [if_pos zb]
      simp [za, zb]
    · rw [if_neg zb, Bool.eq_iff_iff]
      simp only [beq_iff_eq, decide_eq_true_eq]
      constructor
      · intro g; exact absurd (by simpa using g) (key nb db xb)
      · intro g; omega
  · rw [if_neg za]
    by_cases zb : db.size = 0
    · rw [if_pos zb, Bool.eq_iff_iff]
      simp only [beq_iff_eq, decide_eq_true_eq]
      constructor
      · intro g; exact absurd (by simpa using g.symm) (key na da xa)
      · rintro (g | ⟨_, _, g, _⟩)
        · omega
        · have := congrArg List.length g
          rw [size_len, size_len] at this
          omega
    · rw [if_neg zb, Bool.eq_iff_iff]
      simp only [beq_iff_eq, decide_eq_true_eq]
      constructor
      · intro g
        obtain ⟨e1, e2, e3⟩ := txt_inj ha hb (by omega) (by omega) (show txt na da xa = txt nb db xb by simpa using g)
        exact .inr ⟨by omega, e1, by rw [e2], e3⟩
      · rintro (g | ⟨_, e1, e2, e3⟩)
        · omega
        · obtain rfl := bytes_ext e2
          rw [e1, e3]

end Go.Proofs.Qxb6621692aDoor.Can
