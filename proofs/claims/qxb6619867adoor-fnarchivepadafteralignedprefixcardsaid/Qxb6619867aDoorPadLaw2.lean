/-
  THE WALK OF 'FnArchivePadAfterAlignedPrefix'.
-/
import Derived.Test.Qxb6619867aDoorPadLaw1
namespace Go.Proofs.Qxb6619867aDoor.Pad
open Go.RowKit

theorem bytes2_any (a0 a1 : Option Addr) (n c0 m c1 : Nat) (x : Int) (w : World) (hn : n ≤ 9223372036854775807) (hm : m ≤ 9223372036854775807) :
    Calls Tryd.prog 9 #[.slice a0 n c0, .slice a1 m c1, .int .i64 x] w fun e w' => (∃ b, e = .returned (.bool b)) ∧ w = w' := by
  go_enter Tryd.func9, Tryd.ntmps9
  go_wp2
  all_goals (go_ret; exact ⟨⟨_, rfl⟩, rfl⟩)

theorem bytes2_yes (a0 a1 : Option Addr) (n c0 m c1 : Nat) (x : Int) (w : World) (hn : n ≤ 65536) (hm : m ≤ 65536) :
    Calls Tryd.prog 9 #[.slice a0 n c0, .slice a1 m c1, .int .i64 x] w fun e w' => e = .returned (.bool true) ∧ w = w' := by
  go_enter Tryd.func9, Tryd.ntmps9
  go_wp2
  go_ret
  exact ⟨rfl, rfl⟩

/-- f's first X bytes, then g's. -/
def joined (X : Nat) (f g : Nat → Int) : Nat → Int := fun i => if i < X then f i else g (i - X)

theorem cellsOf_joined (X m : Nat) (f g : Nat → Int) : cellsOf f X ++ cellsOf g m = cellsOf (joined X f g) (X + m) := by
  apply List.ext_getElem?
  intro i
  by_cases h1 : i < X
  · rw [List.getElem?_append_left (by rw [cellsOf_length]; exact h1)]
    simp [cellsOf, h1, joined, show i < X + m by omega]
  · rw [List.getElem?_append_right (by rw [cellsOf_length]; omega), cellsOf_length]
    by_cases h2 : i < X + m
    · simp [cellsOf, h1, joined, h2, show i - X < m by omega]
    · simp [cellsOf, h2, show ¬ i - X < m by omega]

theorem splice_two (X m : Nat) (z : Value) (f g : Nat → Int) : splice (splice (List.replicate (X + m) z) 0 (cellsOf f X)) X (cellsOf g m) = cellsOf (joined X f g) (X + m) := by
  rw [← cellsOf_joined]
  have e1 : splice (List.replicate (X + m) z) 0 (cellsOf f X) = cellsOf f X ++ List.replicate m z := by
    simp [splice, cellsOf_length]
  rw [e1]
  unfold splice
  rw [cellsOf_length, List.take_append_of_le_length (by rw [cellsOf_length]; exact Nat.le_refl _), List.take_of_length_le (by rw [cellsOf_length]; exact Nat.le_refl _), List.drop_of_length_le (by simp [cellsOf_length]), List.append_nil]

theorem splice_one_length (X m : Nat) (z : Value) (f : Nat → Int) : (splice (List.replicate (X + m) z) 0 (cellsOf f X)).length = X + m := by
  rw [length_splice _ _ _ (by simp [cellsOf_length])]; simp

/-- 's[c:]' of a slice of c + r bytes at its block's head, the address behind a name. -/
theorem slice_from (g c r : Nat) : ∃ ar : Option Addr, (0 < r → ar = some ⟨g, c, none⟩) ∧ ∀ w, (Instr.slice 22 (.slice (some ⟨g, 0, none⟩) (c + r) (c + r)) (some (.int .i64 c)) none none).run Tryd.prog w = .ok (.slice ar r r) w := by
  refine ⟨if r = 0 then some ⟨g, 0, none⟩ else (some (⟨g, 0, none⟩ : Addr)).map (·.add c), fun h => ?_, fun w => ?_⟩
  · rw [if_neg (by omega)]; simp [Addr.add_lit]
  have hu : Tryd.prog.underlying 22 = some (.slice (Tryd.prog.elem 22)) := by kernel_rfl
  have hs : ∀ w, (sizeOf (Tryd.prog.elem 22)).run Tryd.prog w = .ok 1 w := fun w => by kernel_rfl
  rw [run_slice_l (P := Tryd.prog) (t := 22) (a := some ⟨g, 0, none⟩) (len := c + r) (cap := c + r) (ht := hu) (kl := .i64) (l := c) (h0 := by omega) (h1 := by omega), hs]
  simp [sliced, Result.andThen]

theorem src_some {w w2 : World} {a : Option Addr} {n : Nat} {f : Nat → Int} (h : SlIs w a n f) (hb : Below w.heap.size w w2) (hn : 0 < (cellsOf f n).length) :
    ∃ ad, a = some ad ∧ ∀ j v, (cellsOf f n)[j]? = some v → w2.cell? (ad.add j) = some v := by
  rw [cellsOf_length] at hn
  obtain ⟨b, off, e, _, _⟩ := id (h hn)
  subst e
  exact ⟨_, rfl, src_cells h hb⟩

theorem pl_after (n m : Nat) : pl (pl n + m) = pl n + pl m := by unfold pl; omega

theorem padf_joined (m X : Nat) (f g : Nat → Int) (i : Nat) : padf (X + m) (joined X f g) i = joined X f (padf m g) i := by
  unfold padf joined
  by_cases h1 : i < X
  · rw [if_pos (by omega), if_pos h1, if_pos h1]
  · by_cases h2 : i < X + m
    · rw [if_pos h2, if_neg h1, if_neg h1]; show _ = if i - X < m then g (i - X) else 0; rw [if_pos (by omega)]
    · rw [if_neg h2, if_neg h1]; show _ = if i - X < m then g (i - X) else 0; rw [if_neg (by omega)]

set_option maxRecDepth 20000 in
set_option maxHeartbeats 1000000 in
theorem law2_main (a0 b0 : Option Addr) (n c0 m d0 : Nat) (x : Int) (f g : Nat → Int) (w : World) (hn : n ≤ 65536) (hm : m ≤ 65536) (ha : Hid (a0 = none → n = 0)) (hb0 : Hid (b0 = none → m = 0)) (hS : SlIs w a0 n f) (hT : SlIs w b0 m g) :
    Calls Tryd.prog 4 #[.slice a0 n c0, .slice b0 m d0, .int .i64 x] w fun e w' => e = .returned (.bool true) ∧ Below w.heap.size w w' := by
  obtain ⟨p1, p2, p3, p4⟩ := pl_facts n
  obtain ⟨q1, q2, q3, q4⟩ := pl_facts m
  have hz : (((pl n : Nat) : Int) != (n : Int) + (4 - (n : Int) % 4) % 4) = false := by simp; omega
  clear p4 q4
  go_enter Tryd.func4, Tryd.ntmps4
  go_wp2_with (go_at_call 9; refine (bytes2_yes _ _ _ _ _ _ _ _ hn hm).mono ?_; rintro e w' ⟨rfl, rfl⟩)
  refine (clone_any a0 n c0 f w (by omega) ha.out hS).mono ?_
  rintro e w1 ⟨a1, rfl, ho1, hb1⟩
  have hT1 := hT.below hb1
  go_wp2_with fail
  refine (clone_any b0 m d0 g w1 (by omega) hb0.out hT1).mono ?_
  rintro e w2 ⟨a2, rfl, ho2, hb2⟩
  have hS2 : SlIs w2 a1 n f := ho1.slis.below hb2
  have hT2 : SlIs w2 a2 m g := ho2.slis
  have k1 : Hid (a1 = none → n = 0) := ho1.nil
  have k2 : Hid (a2 = none → m = 0) := ho2.nil
  have hW2 : Below w.heap.size w w2 := hb1.trans (hb2.mono hb1.size)
  clear ho1 ho2 hb1 hb2 hS hT hT1
  go_wp2_with fail
  refine (padRun_any a1 n n x f w2 (by omega) k1 hS2).mono ?_
  rintro e w3 ⟨a3, rfl, hn3, hS3, hb3⟩
  have HN3 : Hid (a3 = none → pl n = 0) := hn3
  have hX3 := hS2.below hb3
  have hT3 := hT2.below hb3
  have hW3 : Below w.heap.size w w3 := hW2.trans (hb3.mono hW2.size)
  clear hn3 hS2 hT2 hb3 hW2
  go_wp2_with fail
  refine (padRun_any a2 m m x g w3 (by omega) k2 hT3).mono ?_
  rintro e w4 ⟨a4, rfl, hn4, hS4, hb4⟩
  have HN4 : Hid (a4 = none → pl m = 0) := hn4
  have hX4 := hX3.below hb4
  have hT4 := hT3.below hb4
  have hP4 := hS3.below hb4
  have hW4 : Below w.heap.size w w4 := hW3.trans (hb4.mono hW3.size)
  clear hn4 hX3 hT3 hS3 hb4 hW3
  go_wp2_with fail
  have hsz : w.heap.size ≤ w4.heap.size := hW4.size
  go_loopw [11] (fun i wr => ∃ k : Nat, k ≤ n ∧ i = .int .i64 k ∧ Below w4.heap.size w4 wr) (fun i _ => n - (intOf i).toNat)
  case atStart => exact ⟨0, Nat.zero_le _, rfl, Below.refl _ _⟩
  case round =>
    obtain ⟨k, hk, rfl, hbr⟩ := hrel
    by_cases hlt : k < n
    · obtain ⟨b, off, rfl, hb1, hc⟩ := hP4 (by omega)
      obtain ⟨b', off', rfl, hb2, hc'⟩ := hX4 (by omega)
      have c1 : wr.cell? ⟨b, off + k, none⟩ = some (.int .u8 (f k)) := (hbr.cell (by exact hb1)).trans ((hc k (by omega)).trans (by rw [padf_in _ _ _ hlt]))
      have c2 : wr.cell? ⟨b', off' + k, none⟩ = some (.int .u8 (f k)) := (hbr.cell (by exact hb2)).trans (hc' k hlt)
      have i1 : (k : Int) < (n : Int) := by omega
      have i2 : (k : Int) < (pl n : Int) := by omega
      clear hP4 hX4 hT4 hS4 hc hc' hW4 p2 q2 hz
      go_wp2
      go_quiet (fail)
      go_wp2
      go_roundw
      case rel => exact ⟨k + 1, by omega, by go_num, below_drewN hbr _⟩
      case measure => simp [intOf]; omega
    · have e : k = n := by omega
      subst e
      have hP5 := hP4.below hbr
      have hT5 := hT4.below hbr
      have hS5 := hS4.below hbr
      have hW5 : Below w.heap.size w wr := hW4.trans (hbr.mono hsz)
      have hsz5 : w.heap.size ≤ wr.heap.size := hW5.size
      clear hP4 hX4 hT4 hS4 hW4 hbr p2 q2 hz
      go_wp2
      generalize wr = w5 at *
      go_loop [12] (fun i => ∃ l : Nat, k ≤ l ∧ l ≤ pl k ∧ i = .int .i64 l) (fun i => pl k - (intOf i).toNat)
      case atStart => exact ⟨k, by omega, by omega, rfl⟩
      case round =>
        obtain ⟨l, hl, hl2, rfl⟩ := hrel
        by_cases hlt : l < pl k
        · obtain ⟨b, off, rfl, hb1, hc⟩ := hP5 (by omega)
          have c1 : w5.cell? ⟨b, off + l, none⟩ = some (.int .u8 0) := (hc l hlt).trans (by rw [padf_out _ _ _ hl])
          clear hc hP5 hT5 hS5 hW5
          go_wp2
          go_round
          case rel => exact ⟨l + 1, by omega, by omega, by go_num⟩
          case measure => simp [intOf]; omega
        · have e : l = pl k := by omega
          subst e
          have hpa := pl_after k m
          have HPA : Hid (pl (pl k + m) = pl k + pl m) := hpa
          have hp3 : pl k ≤ 65540 := by omega
          have hq3 : pl m ≤ 65540 := by omega
          clear hpa hk hl hl2 hlt p1 p3 q1 q3
          generalize padf k f = F at *
          generalize pl k = X at *
          have hb : Below w5.heap.size w5 (w5.alloc (.cells (madeCells #[.int .u8 0] (X + m)) 5)) := (Below.refl _ _).alloc (Nat.le_refl _) _
          have hmk := run_make_row' (P := Tryd.prog) 22 5 (.int .u8 0) 1 Tryd.underlying22 info5 rfl .i64 .i64 (X + m) (by omega) (by omega)
          simp only [Int.natCast_add] at hmk
          obtain ⟨ar, har, hsl⟩ := slice_from w5.heap.size X m
          have HAR : Hid (0 < m → ar = some ⟨w5.heap.size, X, none⟩) := har
          clear har
          go_wp2_with (first | (refine wpList_copy_splice rfl (.tmp 95) (.tmp 96) 22 22 rfl 5 Tryd.underlying22 (by kernel_rfl) _ _ _ _ _ _ rfl rfl w5.heap.size 0 (List.replicate (X + m) (.int .u8 0)) 5 (made_block _ _ _ _) (cellsOf F X) (by rw [cellsOf_length]; exact (Nat.min_eq_left (Nat.le_add_right _ _)).symm) (fun h => ⟨rfl, src_some hP5 hb h⟩) (by simp [cellsOf_length]) (cellsOf_one _ _) w5.heap.size w5 hb (Nat.le_refl _) ?_; intro w6 hg6 hb6) | (refine wpList_copy_splice rfl (.tmp 101) (.tmp 102) 22 22 rfl 5 Tryd.underlying22 (by kernel_rfl) _ _ _ _ _ _ rfl rfl w5.heap.size X (splice (List.replicate (X + m) (.int .u8 0)) 0 (cellsOf F X)) 5 hg6.out (cellsOf g m) (by rw [cellsOf_length]; exact (Nat.min_self m).symm) (fun h => ⟨HAR.out (by rw [cellsOf_length] at h; exact h), src_some hT5 hb6 h⟩) (by rw [splice_one_length, cellsOf_length]; exact Nat.le_refl _) (cellsOf_one _ _) w5.heap.size w5 hb6 (Nat.le_refl _) ?_; intro w7 hg7 hb7))
          have hJ : SlIs w7 (some ⟨w5.heap.size, 0, none⟩) (X + m) (joined X F g) := by
            have h7 := hg7.out
            rw [splice_two] at h7
            exact SlIs.of_row (row_block h7)
          have hP7 := hP5.below hb7
          have hS7 := hS5.below hb7
          have hW7 : Below w.heap.size w w7 := hW5.trans (hb7.mono hsz5)
          have hsz7 : w.heap.size ≤ w7.heap.size := hW7.size
          generalize w5.heap.size = B at *
          clear hg6 hg7 hb6 hb7 hb hmk hsl HAR hP5 hT5 hS5 hW5
          refine (padRun_any (some ⟨B, 0, none⟩) (X + m) (X + m) x (joined X F g) w7 (by omega) (fun h => by cases h) hJ).mono ?_
          rintro e w8 ⟨a8, rfl, hn8, hS8, hb8⟩
          rw [HPA.out] at hS8
          rw [HPA.out]
          have hS9 : SlIs w8 a8 (X + pl m) (joined X F (padf m g)) := hS8.congr (fun i _ => padf_joined m X F g i)
          have hP8 := hP7.below hb8
          have hT8 := hS7.below hb8
          have hW8 : Below w.heap.size w w8 := hW7.trans (hb8.mono hsz7)
          have hsz8 : w.heap.size ≤ w8.heap.size := hW8.size
          clear hS8 hn8 hP7 hS7 hb8 hW7 hJ HPA
          generalize padf m g = G at *
          generalize pl m = Y at *
          have hb : Below w8.heap.size w8 (w8.alloc (.cells (madeCells #[.int .u8 0] (X + Y)) 5)) := (Below.refl _ _).alloc (Nat.le_refl _) _
          have hmk := run_make_row' (P := Tryd.prog) 22 5 (.int .u8 0) 1 Tryd.underlying22 info5 rfl .i64 .i64 (X + Y) (by omega) (by omega)
          simp only [Int.natCast_add] at hmk
          obtain ⟨ar2, har, hsl⟩ := slice_from w8.heap.size X Y
          have HAR : Hid (0 < Y → ar2 = some ⟨w8.heap.size, X, none⟩) := har
          clear har
          go_wp2_with (first | (refine wpList_copy_splice rfl (.tmp 118) (.tmp 119) 22 22 rfl 5 Tryd.underlying22 (by kernel_rfl) _ _ _ _ _ _ rfl rfl w8.heap.size 0 (List.replicate (X + Y) (.int .u8 0)) 5 (made_block _ _ _ _) (cellsOf F X) (by rw [cellsOf_length]; exact (Nat.min_eq_left (Nat.le_add_right _ _)).symm) (fun h => ⟨rfl, src_some hP8 hb h⟩) (by simp [cellsOf_length]) (cellsOf_one _ _) w8.heap.size w8 hb (Nat.le_refl _) ?_; intro w6 hg6 hb6) | (refine wpList_copy_splice rfl (.tmp 124) (.tmp 125) 22 22 rfl 5 Tryd.underlying22 (by kernel_rfl) _ _ _ _ _ _ rfl rfl w8.heap.size X (splice (List.replicate (X + Y) (.int .u8 0)) 0 (cellsOf F X)) 5 hg6.out (cellsOf G Y) (by rw [cellsOf_length]; exact (Nat.min_self Y).symm) (fun h => ⟨HAR.out (by rw [cellsOf_length] at h; exact h), src_some hT8 hb6 h⟩) (by rw [splice_one_length, cellsOf_length]; exact Nat.le_refl _) (cellsOf_one _ _) w8.heap.size w8 hb6 (Nat.le_refl _) ?_; intro w9 hg9 hb9))
          have hJ : SlIs w9 (some ⟨w8.heap.size, 0, none⟩) (X + Y) (joined X F G) := by
            have h9 := hg9.out
            rw [splice_two] at h9
            exact SlIs.of_row (row_block h9)
          have hQ := hS9.below hb9
          have hW9 : Below w.heap.size w w9 := hW8.trans (hb9.mono hsz8)
          have hsz9 : w.heap.size ≤ w9.heap.size := hW9.size
          refine (equal_yes a8 (some ⟨w8.heap.size, 0, none⟩) (X + Y) (X + Y) (X + Y) w9 (joined X F G) (by omega) hQ hJ).mono ?_
          rintro e w10 ⟨rfl, b10⟩
          clear hg6 hg9 hb6 hb9 hb hmk hsl HAR hP8 hT8 hS9 hQ hJ
          go_wp2
          go_ret
          exact ⟨rfl, hW9.trans (b10.mono hsz9)⟩

end Go.Proofs.Qxb6619867aDoor.Pad
