/-
  THE WALKS OF 'padClone', 'padEqual': no library in them.
-/
import Derived.Test.Qxb6619867aDoorRows
import Derived.WalkKit
import Derived.WalkSpells
import Derived.RowKit3
import Derived.Below
import Derived.WalkSmall
import Derived.Deep.OwnRows
import Derived.Deep.QuietTactic
import Derived.BigQuiet
import Derived.Deep.DeepCutAuto
import Derived.Laws.CopyOwn
namespace Go.Proofs.Qxb6619867aDoor.Pad
open Go.RowKit

theorem info5 : (Tryd.prog.info? 5).map (fun i => (i.zero, i.size, i.bytes)) = some (some (.int .u8 0), 1, 1) := by kernel_rfl

/-- A slice of n bytes: where it has an element its cells lie in a block of w. -/
def SlIs (w : World) (a : Option Addr) (n : Nat) (f : Nat → Int) : Prop :=
  0 < n → ∃ b off, a = some ⟨b, off, none⟩ ∧ b < w.heap.size ∧ ∀ i, i < n → w.cell? ⟨b, off + i, none⟩ = some (.int .u8 (f i))

theorem SlIs.below {w w' : World} {a : Option Addr} {n : Nat} {f : Nat → Int} (h : SlIs w a n f) (hb : Below w.heap.size w w') : SlIs w' a n f := by
  intro hn
  obtain ⟨b, off, e, hlt, hc⟩ := h hn
  exact ⟨b, off, e, Nat.lt_of_lt_of_le hlt hb.size, fun i hi => (hb.cell (by exact hlt)).trans (hc i hi)⟩

theorem SlIs.congr {w : World} {a : Option Addr} {n : Nat} {f g : Nat → Int} (h : SlIs w a n f) (e : ∀ i, i < n → f i = g i) : SlIs w a n g := by
  intro hn
  obtain ⟨b, off, e1, hlt, hc⟩ := h hn
  exact ⟨b, off, e1, hlt, fun i hi => by rw [hc i hi, e i hi]⟩

theorem SlIs.of_row {w : World} {g : Nat} {t : TypeId} {n : Nat} {f : Nat → Int} (h : w.rowIs g t n (fun i => .int .u8 (f i))) : SlIs w (some ⟨g, 0, none⟩) n f :=
  fun _ => ⟨g, 0, rfl, h.lt, fun i hi => by rw [Nat.zero_add]; exact h.cell hi⟩

theorem rowBelow {w w' : World} {B b : Nat} {t : TypeId} {n : Nat} {f : Nat → Value} (h : w.rowIs b t n f) (hb : Below B w w') (hlt : b < B) : w'.rowIs b t n f := h.of_block (hb.block b hlt)

/-- The cells that hold f 0, .., f (n - 1). -/
def cellsOf (f : Nat → Int) (n : Nat) : List Value := (List.range n).map fun i => .int .u8 (f i)
theorem cellsOf_length (f : Nat → Int) (n : Nat) : (cellsOf f n).length = n := by simp [cellsOf]
theorem cellsOf_get {f : Nat → Int} {n j : Nat} {v : Value} (h : (cellsOf f n)[j]? = some v) : j < n ∧ v = .int .u8 (f j) := by
  have hj : j < n := by
    have := (List.getElem?_eq_some_iff.1 h).1
    simpa [cellsOf] using this
  refine ⟨hj, ?_⟩
  simpa [cellsOf, hj, eq_comm] using h
theorem cellsOf_one (f : Nat → Int) (n : Nat) : ∀ v ∈ cellsOf f n, v.oneCell' = true := by
  intro v hv
  simp [cellsOf] at hv
  obtain ⟨i, _, rfl⟩ := hv
  rfl
theorem made_block (w : World) (z : Value) (n : Nat) (t : TypeId) : (w.alloc (.cells (madeCells #[z] n) t)).heap[w.heap.size]? = some (.cells (List.replicate n z).toArray t (0, 0)) := by
  rw [← toList_madeCells_one, Array.toArray_toList]
  exact Deep.blk_alloc_new _ _
theorem src_cells {w w2 : World} {ad : Addr} {n : Nat} {f : Nat → Int} (h : SlIs w (some ad) n f) (hb : Below w.heap.size w w2) :
    ∀ j v, (cellsOf f n)[j]? = some v → w2.cell? (ad.add j) = some v := by
  intro j v hv
  obtain ⟨hj, rfl⟩ := cellsOf_get hv
  obtain ⟨b, off, e, hlt, hc⟩ := h (by omega)
  obtain rfl := Option.some.inj e
  rw [Addr.add_lit]
  exact (hb.cell (by exact hlt)).trans (hc j hj)
theorem block_spliced {w : World} {g : Nat} {t : TypeId} {n : Nat} {z : Value} {f : Nat → Int} (h : Hid (w.heap[g]? = some (.cells (splice (List.replicate n z) 0 (cellsOf f n)).toArray t (0, 0)))) :
    w.heap[g]? = some (.cells (cellsOf f n).toArray t (0, 0)) := by
  have e : splice (List.replicate n z) 0 (cellsOf f n) = cellsOf f n := by simp [splice, cellsOf_length]
  have h' := h.out
  rwa [e] at h'
theorem row_block {w : World} {g : Nat} {t : TypeId} {n : Nat} {f : Nat → Int} (h : w.heap[g]? = some (.cells (cellsOf f n).toArray t (0, 0))) : w.rowIs g t n (fun i => .int .u8 (f i)) :=
  ⟨_, h, by simp [cellsOf_length], fun i hi => by simp [cellsOf, hi]⟩

/-- A slice of the call's own: nil, or a whole block from B on. -/
def Own (w : World) (B : Nat) (a : Option Addr) (n : Nat) (f : Nat → Int) : Prop :=
  (a = none ∧ n = 0) ∨ ∃ g, a = some ⟨g, 0, none⟩ ∧ B ≤ g ∧ w.heap[g]? = some (.cells (cellsOf f n).toArray 5 (0, 0))
theorem Own.slis {w : World} {B : Nat} {a : Option Addr} {n : Nat} {f : Nat → Int} (h : Own w B a n f) : SlIs w a n f := by
  rcases h with ⟨rfl, rfl⟩ | ⟨g, rfl, _, hg⟩
  · intro h; omega
  · exact SlIs.of_row (row_block hg)
theorem Own.nil {w : World} {B : Nat} {a : Option Addr} {n : Nat} {f : Nat → Int} (h : Own w B a n f) : a = none → n = 0 := by
  rcases h with ⟨rfl, rfl⟩ | ⟨g, rfl, _, hg⟩
  · intro _; rfl
  · intro h; cases h

set_option maxHeartbeats 400000 in
/-- padClone: a copy of its own. -/
theorem clone_any (a : Option Addr) (n c : Nat) (f : Nat → Int) (w : World) (hn : n ≤ 1048576) (ha : a = none → n = 0) (hS : SlIs w a n f) :
    Calls Tryd.prog 6 #[.slice a n c] w fun e w' => ∃ a', e = .returned (.slice a' n n) ∧ Own w' w.heap.size a' n f ∧ Below w.heap.size w w' := by
  have hq := fun w => Lib.run_eql_slice_nil (P := Tryd.prog) w 22 5 a n c 0 0 Tryd.underlying22
  have hmk := run_make_row' (P := Tryd.prog) 22 5 (.int .u8 0) 1 Tryd.underlying22 info5 rfl .i64 .i64 n (by omega) (by omega)
  cases a with
  | none =>
    obtain rfl := ha rfl
    clear ha
    go_enter Tryd.func6, Tryd.ntmps6
    go_wp2
    go_ret
    exact ⟨none, rfl, .inl ⟨rfl, rfl⟩, Below.refl _ _⟩
  | some ad =>
    clear ha
    have hbl : Below w.heap.size w (w.alloc (.cells (madeCells #[.int .u8 0] n) 5)) := (Below.refl _ _).alloc (Nat.le_refl _) _
    go_enter Tryd.func6, Tryd.ntmps6
    go_wp2_with (refine wpList_copy_splice rfl (.tmp 9) (.tmp 10) 22 22 rfl 5 Tryd.underlying22 (by kernel_rfl) _ _ _ _ _ _ rfl rfl w.heap.size 0 (List.replicate n (.int .u8 0)) 5 (made_block _ _ _ _) (cellsOf f n) (by rw [cellsOf_length]; exact (Nat.min_self n).symm) (fun _ => ⟨rfl, ad, rfl, src_cells hS hbl⟩) (by simp [cellsOf_length]) (cellsOf_one _ _) w.heap.size w hbl (Nat.le_refl _) ?_; intro w2 hg2 hb2)
    go_ret
    exact ⟨_, rfl, .inr ⟨_, rfl, Nat.le_refl _, block_spliced hg2⟩, hb2⟩

set_option maxHeartbeats 400000 in
/-- padEqual, of two slices that hold the same bytes. -/
theorem equal_yes (aa ba : Option Addr) (ac bc n : Nat) (w : World) (f : Nat → Int) (hn : n ≤ 1048576) (hA : SlIs w aa n f) (hB : SlIs w ba n f) :
    Calls Tryd.prog 8 #[.slice aa n ac, .slice ba n bc] w fun e w' => e = .returned (.bool true) ∧ Below w.heap.size w w' := by
  go_enter Tryd.func8, Tryd.ntmps8
  go_wp2
  go_loopw [5] (fun i wr => ∃ k : Nat, k ≤ n ∧ i = .int .i64 k ∧ Below w.heap.size w wr) (fun i _ => n - (intOf i).toNat)
  case atStart => exact ⟨0, Nat.zero_le _, rfl, Below.refl _ _⟩
  case round =>
    obtain ⟨k, hk, rfl, hb⟩ := hrel
    by_cases hlt : k < n
    · obtain ⟨b, off, rfl, hb1, hc⟩ := hA (by omega)
      obtain ⟨b', off', rfl, hb2, hc'⟩ := hB (by omega)
      have c1 : wr.cell? ⟨b, off + k, none⟩ = some (.int .u8 (f k)) := (hb.cell (by exact hb1)).trans (hc k hlt)
      have c2 : wr.cell? ⟨b', off' + k, none⟩ = some (.int .u8 (f k)) := (hb.cell (by exact hb2)).trans (hc' k hlt)
      have i1 : (k : Int) < (n : Int) := by omega
      clear hA hB hc hc'
      go_wp2
      go_quiet (fail)
      go_wp2
      go_roundw
      case rel => exact ⟨k + 1, by omega, by go_num, below_drewN hb _⟩
      case measure => simp [intOf]; omega
    · have e : k = n := by omega
      subst e
      clear hA hB
      go_wp2
      go_ret
      exact ⟨rfl, hb⟩

end Go.Proofs.Qxb6619867aDoor.Pad
