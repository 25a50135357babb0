/-
  THE WALK OF 'FnByPositionSplitsAtAnyCut'.
-/
import Derived.Test.Qxb6619657aPosWalks
import Derived.Deep.DeepCutAuto
import Derived.Laws.CopyOwn
namespace Go.Proofs.Qxb6619657a.Pos
open Go.RowKit

theorem bytes_any (a0 a1 : Option Addr) (n c0 m c1 : Nat) (x : Int) (w : World) (hn : n ≤ 9223372036854775807) (hm : m ≤ 9223372036854775807) :
    Calls Try.prog 7 #[.slice a0 n c0, .slice a1 m c1, .int .i64 x] w fun e w' => (∃ b, e = .returned (.bool b)) ∧ w = w' := by
  go_enter Try.func7, Try.ntmps7
  go_wp2
  all_goals (go_ret; exact ⟨⟨_, rfl⟩, rfl⟩)

theorem bytes_yes (a0 a1 : Option Addr) (n c0 m c1 : Nat) (x : Int) (w : World) (hn : n ≤ 65536) (hm : m ≤ 65536) :
    Calls Try.prog 7 #[.slice a0 n c0, .slice a1 m c1, .int .i64 x] w fun e w' => e = .returned (.bool true) ∧ w = w' := by
  go_enter Try.func7, Try.ntmps7
  go_wp2
  go_ret
  exact ⟨rfl, rfl⟩

theorem SlIs.below {w w' : World} {k : IntKind} {a : Option Addr} {n : Nat} {f : Nat → Int} (h : SlIs w k a n f) (hb : Below w.heap.size w w') : SlIs w' k a n f := by
  intro hn
  obtain ⟨b, off, e, hlt, hc⟩ := h hn
  exact ⟨b, off, e, Nat.lt_of_lt_of_le hlt hb.size, fun i hi => (hb.cell (by exact hlt)).trans (hc i hi)⟩

theorem SlIs.take {w : World} {k : IntKind} {a : Option Addr} {n c : Nat} {f : Nat → Int} (h : SlIs w k a n f) (hc : c ≤ n) : SlIs w k a c f := by
  intro hn
  obtain ⟨b, off, e, hlt, hcl⟩ := h (by omega)
  exact ⟨b, off, e, hlt, fun i hi => hcl i (by omega)⟩

theorem SlIs.drop {w : World} {k : IntKind} {a : Option Addr} {c r : Nat} {f : Nat → Int} (h : SlIs w k a (c + r) f) {a' : Option Addr} (ha : 0 < r → a' = a.map (·.add c)) : SlIs w k a' r (fun i => f (c + i)) := by
  intro hn
  obtain ⟨b, off, rfl, hlt, hcl⟩ := h (by omega)
  refine ⟨b, off + c, ?_, hlt, fun i hi => by rw [Nat.add_assoc]; exact hcl (c + i) (by omega)⟩
  rw [ha hn]; simp [Addr.add]

theorem slice_from (a : Option Addr) (c r : Nat) : ∃ ar : Option Addr, (0 < r → ar = a.map (·.add c)) ∧ ∀ w, (Instr.slice 22 (.slice a (c + r) (c + r)) (some (.int .i64 c)) none none).run Try.prog w = .ok (.slice ar r r) w := by
  refine ⟨if r = 0 then a else a.map (·.add c), fun h => if_neg (by omega), fun w => ?_⟩
  have hu : Try.prog.underlying 22 = some (.slice (Try.prog.elem 22)) := by kernel_rfl
  have hs : ∀ w, (sizeOf (Try.prog.elem 22)).run Try.prog w = .ok 1 w := fun w => by kernel_rfl
  rw [run_slice_l (P := Try.prog) (t := 22) (a := a) (len := c + r) (cap := c + r) (ht := hu) (kl := .i64) (l := c) (h0 := by omega) (h1 := by omega), hs]
  simp [sliced, Result.andThen]

theorem rowBelow {w w' : World} {B b : Nat} {t : TypeId} {n : Nat} {f : Nat → Value} (h : w.rowIs b t n f) (hb : Below B w w') (hlt : b < B) : w'.rowIs b t n f := h.of_block (hb.block b hlt)

/-- The cells that hold f 0, .., f (n - 1). -/
def cellsOf (k : IntKind) (f : Nat → Int) (n : Nat) : List Value := (List.range n).map fun i => .int k (f i)
theorem cellsOf_length (k : IntKind) (f : Nat → Int) (n : Nat) : (cellsOf k f n).length = n := by simp [cellsOf]
theorem cellsOf_get {k : IntKind} {f : Nat → Int} {n j : Nat} {v : Value} (h : (cellsOf k f n)[j]? = some v) : j < n ∧ v = .int k (f j) := by
  have hj : j < n := by
    have := (List.getElem?_eq_some_iff.1 h).1
    simpa [cellsOf] using this
  refine ⟨hj, ?_⟩
  simpa [cellsOf, hj, eq_comm] using h
theorem cellsOf_one (k : IntKind) (f : Nat → Int) (n : Nat) : ∀ v ∈ cellsOf k f n, v.oneCell' = true := by
  intro v hv
  simp [cellsOf] at hv
  obtain ⟨i, _, rfl⟩ := hv
  rfl
theorem made_block (w : World) (z : Value) (n : Nat) (t : TypeId) : (w.alloc (.cells (madeCells #[z] n) t)).heap[w.heap.size]? = some (.cells (List.replicate n z).toArray t (0, 0)) := by
  rw [← toList_madeCells_one, Array.toArray_toList]
  exact Deep.blk_alloc_new _ _
theorem src_cells {w w2 : World} {k : IntKind} {ad : Addr} {n : Nat} {f : Nat → Int} (h : SlIs w k (some ad) n f) (hb : Below w.heap.size w w2) :
    ∀ j v, (cellsOf k f n)[j]? = some v → w2.cell? (ad.add j) = some v := by
  intro j v hv
  obtain ⟨hj, rfl⟩ := cellsOf_get hv
  obtain ⟨b, off, e, hlt, hc⟩ := h (by omega)
  obtain rfl := Option.some.inj e
  rw [Addr.add_lit]
  exact (hb.cell (by exact hlt)).trans (hc j hj)
theorem row_spliced {w : World} {g : Nat} {t : TypeId} {n : Nat} {z : Value} {k : IntKind} {f : Nat → Int} (h : Hid (w.heap[g]? = some (.cells (splice (List.replicate n z) 0 (cellsOf k f n)).toArray t (0, 0)))) :
    w.rowIs g t n (fun i => .int k (f i)) := by
  have e : splice (List.replicate n z) 0 (cellsOf k f n) = cellsOf k f n := by simp [splice, cellsOf_length]
  have h' := h.out
  rw [e] at h'
  exact ⟨_, h', by simp [cellsOf_length], fun i hi => by simp [cellsOf, hi]⟩
theorem SlIs.of_row {w : World} {g : Nat} {t : TypeId} {n : Nat} {k : IntKind} {f : Nat → Int} (h : w.rowIs g t n (fun i => .int k (f i))) : SlIs w k (some ⟨g, 0, none⟩) n f :=
  fun _ => ⟨g, 0, rfl, h.lt, fun i hi => by rw [Nat.zero_add]; exact h.cell hi⟩

/-- The identity order, j of its elements laid. -/
def idf (j i : Nat) : Int := if i < j then i else 0
def idv (j : Nat) : Nat → Value := fun i => .int .i64 (idf j i)
theorem idv_next (j i : Nat) : (if i = j then .int .i64 j else idv j i) = idv (j + 1) i := by
  unfold idv idf
  by_cases h : i = j
  · subst h; simp
  · rw [if_neg h]; congr 1; by_cases h2 : i < j
    · rw [if_pos h2, if_pos (by omega)]
    · rw [if_neg h2, if_neg (by omega)]
theorem idf_in (j : Nat) : ∀ i, i < j → 0 ≤ idf j i ∧ idf j i < j := by
  intro i hi
  unfold idf
  rw [if_pos hi]
  omega
theorem got_id (vs : Nat → Int) (j i : Nat) (hi : i < j) : got (idf j) vs j i = .int .u64 (vs i) := by
  unfold got idf
  rw [if_pos hi, if_pos hi]
  rfl
theorem got_at (os vs : Nat → Int) (n i : Nat) (hi : i < n) : got os vs n i = .int .u64 (vs (os i).toNat) := by
  unfold got
  rw [if_pos hi]

set_option maxRecDepth 20000 in
set_option maxHeartbeats 1000000 in
theorem law_main (a0 a1 : Option Addr) (r c0 m c1 c : Nat) (w : World) (os vs : Nat → Int) (hn : c + r ≤ 65536) (hm : m ≤ 65536)
    (h0 : Hid (a0 = none → (c = 0 ∧ r = 0) ∧ c0 = 0)) (h1 : Hid (a1 = none → m = 0 ∧ c1 = 0)) (hO : SlIs w .i64 a0 (c + r) os) (hV : SlIs w .u64 a1 m vs) :
    Calls Try.prog 3 #[.slice a0 (c + r) c0, .slice a1 m c1, .int .i64 c] w fun e w' => e = .returned (.bool true) ∧ Below w.heap.size w w' := by
  have hq0 := fun w => run_neq_slice_nil_any (P := Try.prog) w 22 3 a0 (c + r) c0 0 0 Try.underlying22
  have hq1 := fun w => run_neq_slice_nil_any (P := Try.prog) w 23 26 a1 m c1 0 0 Try.underlying23
  have hmk0 := run_make_row' (P := Try.prog) 22 3 (.int .i64 0) 8 Try.underlying22 info3 rfl .i64 .i64 (c + r) (by omega) (by omega)
  have hmk1 := run_make_row' (P := Try.prog) 23 26 (.int .u64 0) 8 Try.underlying23 info26 rfl .i64 .i64 m (by omega) (by omega)
  simp only [Int.natCast_add] at hmk0
  go_enter Try.func3, Try.ntmps3
  go_upto_if 38 with (go_at_call 7; refine (bytes_yes _ _ _ _ _ _ _ _ hn hm).mono ?_; rintro e w' ⟨rfl, rfl⟩)
  go_cut [0, 7] (fun s0 _ wc => ∃ a, s0 = .slice a (c + r) (c + r) ∧ SlIs wc .i64 a (c + r) os ∧ Below w.heap.size w wc)
  case first =>
    cases a0 with
    | none =>
      obtain ⟨⟨rfl, rfl⟩, rfl⟩ := h0.out rfl
      go_wp2
      go_meet
      case rel => exact ⟨none, rfl, fun h => absurd h (by omega), Below.refl _ _⟩
    | some ad =>
      have hbl : Below w.heap.size w (w.alloc (.cells (madeCells #[.int .i64 0] (c + r)) 3)) := (Below.refl _ _).alloc (Nat.le_refl _) _
      go_wp2_with (refine wpList_copy_splice rfl (.tmp 42) (.tmp 43) 22 22 rfl 3 Try.underlying22 (by kernel_rfl) _ _ _ _ _ _ rfl rfl w.heap.size 0 (List.replicate (c + r) (.int .i64 0)) 3 (made_block _ _ _ _) (cellsOf .i64 os (c + r)) (by rw [cellsOf_length]; exact (Nat.min_self (c + r)).symm) (fun _ => ⟨rfl, ad, rfl, src_cells hO hbl⟩) (by simp [cellsOf_length]) (cellsOf_one _ _ _) w.heap.size w hbl (Nat.le_refl _) ?_; intro w2 hg2 hb2)
      go_meet
      case rel => exact ⟨_, rfl, SlIs.of_row (row_spliced hg2), hb2⟩
  case rest =>
    generalize wc = wa at *
    obtain ⟨a, rfl, hO1, hb1⟩ := hcut
    have hV1 : SlIs wa .u64 a1 m vs := hV.below hb1
    clear hmk0 hq0 hO hV h0
    go_upto_if 47 with (fail)
    go_cut [1, 8] (fun s0 _ wd => ∃ a', s0 = .slice a' m m ∧ SlIs wd .u64 a' m vs ∧ Below wa.heap.size wa wd)
    case first =>
      cases a1 with
      | none =>
        obtain ⟨rfl, rfl⟩ := h1.out rfl
        go_wp2
        go_meet
        case rel => exact ⟨none, rfl, fun h => absurd h (by omega), Below.refl _ _⟩
      | some ad =>
        have hbl : Below wa.heap.size wa (wa.alloc (.cells (madeCells #[.int .u64 0] m) 26)) := (Below.refl _ _).alloc (Nat.le_refl _) _
        go_wp2_with (refine wpList_copy_splice rfl (.tmp 51) (.tmp 52) 23 23 rfl 26 Try.underlying23 (by kernel_rfl) _ _ _ _ _ _ rfl rfl wa.heap.size 0 (List.replicate m (.int .u64 0)) 26 (made_block _ _ _ _) (cellsOf .u64 vs m) (by rw [cellsOf_length]; exact (Nat.min_self m).symm) (fun _ => ⟨rfl, ad, rfl, src_cells hV1 hbl⟩) (by simp [cellsOf_length]) (cellsOf_one _ _ _) wa.heap.size wa hbl (Nat.le_refl _) ?_; intro w2 hg2 hb2)
        go_meet
        case rel => exact ⟨_, rfl, SlIs.of_row (row_spliced hg2), hb2⟩
    case rest =>
      obtain ⟨a', rfl, hV2, hb2⟩ := hcut
      have hO2 : SlIs wc .i64 a (c + r) os := hO1.below hb2
      have hbc : Below w.heap.size w wc := hb1.trans (hb2.mono hb1.size)
      clear hO1 hV1 hb1 hb2 h1 hq1 hmk1
      go_wp2
      go_loop [9] (fun i => ∃ k : Nat, k ≤ c + r ∧ i = .int .i64 k ∧ Hid (∀ j, j < k → 0 ≤ os j ∧ os j < m)) (fun i => c + r - (intOf i).toNat)
      case atStart => exact ⟨0, Nat.zero_le _, rfl, fun j hj => absurd hj (by omega)⟩
      case round =>
        obtain ⟨k, hk, rfl, hin⟩ := hrel
        by_cases hlt : k < c + r
        · obtain ⟨b, off, rfl, hb1, hcl⟩ := hO2 (by omega)
          have c1 := hcl k hlt
          clear hcl
          by_cases g1 : os k < 0
          · go_wp2
            go_ret
            exact ⟨rfl, hbc⟩
          · by_cases g2 : (m : Int) ≤ os k
            · go_wp2
              go_ret
              exact ⟨rfl, hbc⟩
            · go_wp2
              go_round
              case rel =>
                refine ⟨k + 1, by omega, by go_num, fun j hj => ?_⟩
                by_cases e : j = k
                · subst e; omega
                · exact hin.out j (by omega)
              case measure => simp [intOf]; omega
        · have e : k = c + r := by omega
          subst e
          have hin' : ∀ i, i < c + r → 0 ≤ os i ∧ os i < m := hin.out
          have HI : Hid (∀ i, i < c + r → 0 ≤ os i ∧ os i < m) := hin'
          have HL : Hid (∀ i, i < c → 0 ≤ os i ∧ os i < m) := fun i hi => hin' i (by omega)
          have HR : Hid (∀ i, i < r → 0 ≤ os (c + i) ∧ os (c + i) < m) := fun i hi => hin' (c + i) (by omega)
          have hmki := run_make_row' (P := Try.prog) 22 3 (.int .i64 0) 8 Try.underlying22 info3 rfl .i64 .i64 m (by omega) (by omega)
          obtain ⟨ar, har, hsl⟩ := slice_from a c r
          have HAR : Hid (0 < r → ar = a.map (·.add c)) := har
          clear hin' hin har
          go_wp2_with (go_at_call 8; first | (refine (zzByPos a a' (c + r) m (c + r) m wc os vs hn hm hO2 hV2 HI.out).mono ?_; rintro e w1 ⟨rfl, r1, b1, z1⟩) | (refine (zzByPos a a' (c + r) m c m w1 os vs (by omega) hm ((hO2.take (by omega)).below b1) (hV2.below b1) HL.out).mono ?_; rintro e w2 ⟨rfl, r2, b2, z2⟩) | (refine (zzByPos ar a' r m r m w2 (fun i => os (c + i)) vs (by omega) hm (((hO2.below b1).below b2).drop HAR.out) ((hV2.below b1).below b2) HR.out).mono ?_; rintro e w3 ⟨rfl, r3, b3, z3⟩))
          clear hsl hmki HAR HI HL HR
          have q1 : Below wc.heap.size wc w3 := (b1.trans (b2.mono (by omega))).trans (b3.mono (by omega))
          have hV3 : SlIs w3 .u64 a' m vs := hV2.below q1
          have hb3 : Below w.heap.size w w3 := hbc.trans (q1.mono hbc.size)
          have R1 : w3.rowIs wc.heap.size 26 (c + r) (got os vs (c + r)) := rowBelow (rowBelow r1 b2 (by omega)) b3 (by omega)
          have R2 : w3.rowIs (wc.heap.size + 1) 26 c (got os vs c) := by rw [z1] at r2; exact rowBelow r2 b3 (by omega)
          have R3 : w3.rowIs (wc.heap.size + 1 + 1) 26 r (got (fun i => os (c + i)) vs r) := by rw [z2, z1] at r3; exact r3
          have Z3 : w3.heap.size = wc.heap.size + 1 + 1 + 1 := by omega
          have hsz : w.heap.size ≤ wc.heap.size := hbc.size
          clear r1 r2 r3 b1 b2 b3 z1 z2 z3 hO2 hV2 q1 hbc
          generalize wc.heap.size = B at *
          go_loopw [14] (fun i wr => ∃ j : Nat, j ≤ m ∧ i = .int .i64 j ∧ wr.rowIs (B + 1 + 1 + 1) 3 m (idv j) ∧ Below (B + 1 + 1 + 1) w3 wr ∧ wr.heap.size = B + 1 + 1 + 1 + 1) (fun i _ => m - (intOf i).toNat)
          case atStart =>
            refine ⟨0, Nat.zero_le _, rfl, ?_, ?_, ?_⟩
            · rw [← Z3]; exact World.rowIs_made w3 (.int .i64 0) m 3
            · exact (Below.refl _ _).alloc (by omega) _
            · simp [Z3]
          case round =>
            obtain ⟨j, hj, rfl, hrow, hb, hz⟩ := hrel
            by_cases hlt : j < m
            · have c3 : wr.cell? ⟨B + 1 + 1 + 1, j, none⟩ = some (idv j j) := hrow.cell hlt
              have c4 : wr.frozen? ⟨B + 1 + 1 + 1, j, none⟩ = false := hrow.frozen j
              have R : (wr.setCell ⟨B + 1 + 1 + 1, j, none⟩ (.int .i64 j)).rowIs (B + 1 + 1 + 1) 3 m (idv (j + 1)) := (hrow.set j _).congr (fun i _ => idv_next j i)
              clear hrow R1 R2 R3 hV3 hb3
              go_wp2
              go_roundw
              case rel => exact ⟨j + 1, by omega, by go_num, R, hb.setCell (Nat.le_refl _) _, by simpa [World.setCell] using hz⟩
              case measure => simp [intOf]; omega
            · have e : j = m := by omega
              subst e
              have hid : SlIs wr .i64 (some ⟨B + 1 + 1 + 1, 0, none⟩) j (idf j) := SlIs.of_row hrow
              have R1' : wr.rowIs B 26 (c + r) (got os vs (c + r)) := rowBelow R1 hb (by omega)
              have R2' : wr.rowIs (B + 1) 26 c (got os vs c) := rowBelow R2 hb (by omega)
              have R3' : wr.rowIs (B + 1 + 1) 26 r (got (fun i => os (c + i)) vs r) := rowBelow R3 hb (by omega)
              have hV4 : SlIs wr .u64 a' j vs := hV3.below (Z3 ▸ hb)
              have hb4 : Below w.heap.size w wr := hb3.trans (hb.mono (by omega))
              clear R1 R2 R3 hV3 hb3 hrow hb
              go_wp2_with (go_at_call 8; refine (zzByPos _ a' _ j j j wr (idf j) vs hm hm hid hV4 (idf_in j)).mono ?_; rintro e w5 ⟨rfl, r5, b5, z5⟩)
              have S1 : w5.rowIs B 26 (c + r) (got os vs (c + r)) := rowBelow R1' b5 (by omega)
              have S2 : w5.rowIs (B + 1) 26 c (got os vs c) := rowBelow R2' b5 (by omega)
              have S3 : w5.rowIs (B + 1 + 1) 26 r (got (fun i => os (c + i)) vs r) := rowBelow R3' b5 (by omega)
              have S5 : SlIs w5 .u64 (some ⟨B + 1 + 1 + 1 + 1, 0, none⟩) j vs := by
                rw [hz] at r5
                exact SlIs.of_row (r5.congr (fun i hi => got_id vs j i hi))
              have hV5 : SlIs w5 .u64 a' j vs := hV4.below b5
              have hb5 : Below w.heap.size w w5 := hb4.trans (b5.mono (by omega))
              have hsz5 : w.heap.size ≤ w5.heap.size := by omega
              have Z5 : B + 1 + 1 < w5.heap.size := by omega
              clear R1' R2' R3' hV4 hb4 hid r5 b5 z5 hz Z3 hj hlt
              go_loopw [16] (fun i wr => ∃ k : Nat, k ≤ c ∧ i = .int .i64 k ∧ Below w5.heap.size w5 wr) (fun i _ => c - (intOf i).toNat)
              case atStart => exact ⟨0, Nat.zero_le _, rfl, Below.refl _ _⟩
              case round =>
                obtain ⟨k, hk, rfl, hb⟩ := hrel
                by_cases hlt : k < c
                · have c1 : wr.cell? ⟨B, k, none⟩ = some (.int .u64 (vs (os k).toNat)) := (hb.cell (by show B < _; omega)).trans ((S1.cell (by omega)).trans (by rw [got_at _ _ _ _ (by omega)]))
                  have c2 : wr.cell? ⟨B + 1, k, none⟩ = some (.int .u64 (vs (os k).toNat)) := (hb.cell (by show B + 1 < _; omega)).trans ((S2.cell (by omega)).trans (by rw [got_at _ _ _ _ (by omega)]))
                  have i1 : (k : Int) < (c : Int) := by omega
                  have i2 : (k : Int) < (c : Int) + (r : Int) := by omega
                  clear S1 S2 S3 S5 hV5 hb5
                  go_wp2
                  go_quiet (fail)
                  go_wp2
                  go_roundw
                  case rel => exact ⟨k + 1, by omega, by go_num, below_drewN hb _⟩
                  case measure => simp [intOf]; omega
                · have e : k = c := by omega
                  subst e
                  have T1 : wr.rowIs B 26 (k + r) (got os vs (k + r)) := rowBelow S1 hb (by omega)
                  have T3 : wr.rowIs (B + 1 + 1) 26 r (got (fun i => os (k + i)) vs r) := rowBelow S3 hb (by omega)
                  have T5 := S5.below hb
                  have hV6 := hV5.below hb
                  have hb6 : Below w.heap.size w wr := hb5.trans (hb.mono hsz5)
                  have hsz6 : w.heap.size ≤ wr.heap.size := by have := hb.size; omega
                  have Z6 : B + 1 + 1 < wr.heap.size := by have := hb.size; omega
                  clear S1 S2 S3 S5 hV5 hb5 hb hk hlt
                  go_wp2
                  generalize wr = w6 at *
                  go_loopw [17] (fun i wr => ∃ k : Nat, k ≤ r ∧ i = .int .i64 k ∧ Below w6.heap.size w6 wr) (fun i _ => r - (intOf i).toNat)
                  case atStart => exact ⟨0, Nat.zero_le _, rfl, Below.refl _ _⟩
                  case round =>
                    obtain ⟨l, hl, rfl, hb⟩ := hrel
                    by_cases hlt : l < r
                    · have c1 : wr.cell? ⟨B, k + l, none⟩ = some (.int .u64 (vs (os (k + l)).toNat)) := (hb.cell (by show B < _; omega)).trans ((T1.cell (by omega)).trans (by rw [got_at _ _ _ _ (by omega)]))
                      have c2 : wr.cell? ⟨B + 1 + 1, l, none⟩ = some (.int .u64 (vs (os (k + l)).toNat)) := (hb.cell (by show B + 1 + 1 < _; omega)).trans ((T3.cell (by omega)).trans (by rw [got_at _ _ _ _ (by omega)]))
                      have i1 : (l : Int) < (r : Int) := by omega
                      have i2 : (k : Int) + (l : Int) < (k : Int) + (r : Int) := by omega
                      have i3 : 0 ≤ (k : Int) + (l : Int) := by omega
                      have i4 : ((k : Int) + (l : Int)).toNat = k + l := by omega
                      clear T1 T3 T5 hV6 hb6
                      go_wp2
                      go_quiet (fail)
                      go_wp2
                      go_roundw
                      case rel => exact ⟨l + 1, by omega, by go_num, below_drewN hb _⟩
                      case measure => simp [intOf]; omega
                    · have e : l = r := by omega
                      subst e
                      have U5 := T5.below hb
                      have hV7 := hV6.below hb
                      have hb7 : Below w.heap.size w wr := hb6.trans (hb.mono hsz6)
                      have hsz7 : w.heap.size ≤ wr.heap.size := by have := hb.size; omega
                      clear T1 T3 T5 hV6 hb6 hb
                      go_wp2_with (go_at_call 9; refine (sameWords_yes _ a' _ _ j wr vs hm U5 hV7).mono ?_; rintro e w8 ⟨rfl, b8⟩)
                      go_ret
                      exact ⟨rfl, hb7.trans (b8.mono hsz7)⟩
end Go.Proofs.Qxb6619657a.Pos
