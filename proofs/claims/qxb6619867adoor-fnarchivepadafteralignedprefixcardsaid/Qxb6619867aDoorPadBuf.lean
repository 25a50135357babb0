/-
  THE WALKS OF 'ZZNewArchive', '(*bytes.Buffer).Bytes' AT THE FIELD, 'ZZArchiveBytes', 'ZZArchiveInode'.
-/
import Derived.Test.Qxb6619867aDoorPadWalks
import Derived.Lib.BufferAt
namespace Go.Proofs.Qxb6619867aDoor.Pad
open Go.RowKit

/-- The archive's other fields: the inode at place 3, the nil map at place 4. -/
def rest (x : Int) : Nat → Option Value := fun i => #[Value.slice none 0 0, .int .i64 0, .int .i8 0, .int .i64 x, .map none][i]?

theorem new_buffer (a : Option Addr) (n : Nat) (x : Int) (f : Nat → Int) (w : World) (B : Nat) (c : Array Value) (t : TypeId) (hn : n ≤ 1048576) (hB : B ≤ w.heap.size) (hO : Own w B a n f) :
    LibA.IsBuffer 42 (rest x) 5 B (w.heap.size + 1) 0 (cellsOf f n) ((w.alloc (.cells c t)).alloc (.cells #[.slice a n n, .int .i64 0, .int .i8 0, .int .i64 x, .map none] 42)) := by
  have hz : (w.alloc (.cells c t)).heap.size = w.heap.size + 1 := by simp
  have hnew : ((w.alloc (.cells c t)).alloc (.cells #[.slice a n n, .int .i64 0, .int .i8 0, .int .i64 x, .map none] 42)).heap[w.heap.size + 1]? = some (.cells #[.slice a n n, .int .i64 0, .int .i8 0, .int .i64 x, .map none] 42 (0, 0)) := by
    have h := Deep.blk_alloc_new (w.alloc (.cells c t)) (.cells #[.slice a n n, .int .i64 0, .int .i8 0, .int .i64 x, .map none] 42)
    rwa [hz] at h
  refine ⟨by omega, .slice a n n, 0, ⟨_, hnew, rfl, rfl, rfl, fun i hi => ?_⟩, ⟨by simp, ?_⟩, ?_⟩
  · match i, hi with
    | 3, _ => rfl
    | 4, _ => rfl
    | k + 5, _ => rfl
  · rcases hO with ⟨rfl, rfl⟩ | ⟨g, rfl, hBg, hg⟩
    · exact .inl ⟨rfl, rfl⟩
    · have hlt : g < w.heap.size := (Array.getElem?_eq_some_iff.1 hg).1
      refine .inr ⟨g, n, (cellsOf f n).toArray, by rw [cellsOf_length], hBg, ?_, by rw [cellsOf_length]; exact Nat.le_refl _, by unfold maxLen; omega, by simp [cellsOf_length], by rw [cellsOf_length, Nat.mul_one]; exact List.take_of_length_le (by rw [cellsOf_length]; exact Nat.le_refl _)⟩
      rw [Deep.blk_alloc_lt _ _ _ (by rw [hz]; omega), Deep.blk_alloc_lt _ _ _ hlt]
      exact hg
  · rcases hO with ⟨rfl, rfl⟩ | ⟨g, rfl, hBg, hg⟩
    · simp [Value.ownBlock]
    · have hlt : g < w.heap.size := (Array.getElem?_eq_some_iff.1 hg).1
      simp [Value.ownBlock]
      omega

set_option maxHeartbeats 400000 in
theorem new_any (a : Option Addr) (n : Nat) (x : Int) (f : Nat → Int) (w : World) (B : Nat) (hn : n ≤ 1048576) (hB : B ≤ w.heap.size) (hO : Own w B a n f) :
    Calls Tryd.prog 10 #[.slice a n n, .int .i64 x] w fun e w' => ∃ b, e = .returned (.pointer (some ⟨b, 0, none⟩)) ∧ LibA.IsBuffer 42 (rest x) 5 B b 0 (cellsOf f n) w' ∧ Below w.heap.size w w' := by
  go_enter Tryd.func10, Tryd.ntmps10
  go_wp2_with (go_in)
  go_ret
  exact ⟨_, rfl, new_buffer a n x f w B _ _ hn hB hO, ((Below.refl _ _).alloc (Nat.le_refl _) _).alloc (by simp) _⟩

set_option maxHeartbeats 400000 in
/-- (*bytes.Buffer).Bytes of a buffer in the field. -/
theorem bytes_any (T : TypeId) (R : Nat → Option Value) (B b : Nat) (f : Nat → Int) (n : Nat) (w : World) (hn : n ≤ 1048576) (h : LibA.IsBuffer T R 5 B b 0 (cellsOf f n) w) :
    Calls Tryd.prog 16 #[.pointer (some ⟨b, 0, none⟩)] w fun e w' => ∃ a c, e = .returned (.slice a n c) ∧ (a = none → n = 0) ∧ SlIs w a n f ∧ ∃ q, w' = w.drewN q := by
  obtain ⟨hB, lr, hc⟩ := h.cases
  rcases hc with ⟨hnil, hbk⟩ | ⟨g, cap, cur, hbk, hBg, hg, hnc, hcm, hcs, htk, hgb⟩
  · have e0 : n = 0 := by have := congrArg List.length hnil; simpa [cellsOf_length] using this
    subst e0
    have d0 := hbk.c0
    have d1 : w.cell? ⟨b, 1, none⟩ = some (.int .i64 0) := by have := hbk.c1; simpa using this
    clear h hbk hnil
    go_enter Tryd.func16, Tryd.ntmps16
    go_wp2
    go_quiet (fail)
    go_wp2
    go_ret
    exact ⟨_, _, rfl, by simp, fun h => absurd h (by omega), _, rfl⟩
  · rw [cellsOf_length] at hbk hnc htk
    have d0 := hbk.c0
    have d1 : w.cell? ⟨b, 1, none⟩ = some (.int .i64 0) := by have := hbk.c1; simpa using this
    have hS : SlIs w (some ⟨g, 0, none⟩) n f := by
      intro hpos
      refine ⟨g, 0, rfl, (Array.getElem?_eq_some_iff.1 hg).1, fun i hi => ?_⟩
      have e1 : (cur.toList.take n)[i]? = (cellsOf f n)[i]? := by rw [htk]
      rw [List.getElem?_take, if_pos hi] at e1
      rw [Lib.cell_of_heap hg, Nat.zero_add, ← Array.getElem?_toList, e1]
      simp [cellsOf, hi]
    have hcm' := hcm
    unfold maxLen at hcm'
    clear h hbk htk hcs hg hcm hgb
    go_enter Tryd.func16, Tryd.ntmps16
    go_wp2
    go_quiet (fail)
    go_wp2
    go_ret
    exact ⟨_, _, rfl, (fun h => by cases h), hS, _, rfl⟩

theorem archBytes_any (T : TypeId) (R : Nat → Option Value) (B b : Nat) (f : Nat → Int) (n : Nat) (w : World) (hn : n ≤ 1048576) (h : LibA.IsBuffer T R 5 B b 0 (cellsOf f n) w) :
    Calls Tryd.prog 12 #[.pointer (some ⟨b, 0, none⟩)] w fun e w' => ∃ a c, e = .returned (.slice a n c) ∧ (a = none → n = 0) ∧ SlIs w a n f ∧ ∃ q, w' = w.drewN q := by
  go_enter Tryd.func12, Tryd.ntmps12
  go_wp2_with (go_at_call 16; refine (bytes_any T R B b f n _ hn h).mono ?_; rintro e w' ⟨a, c, rfl, h1, h2, q, rfl⟩)
  go_ret
  exact ⟨_, _, rfl, h1, h2, q, rfl⟩

theorem archInode_any (T : TypeId) (x : Int) (B b : Nat) (bs : List Value) (w : World) (h : LibA.IsBuffer T (rest x) 5 B b 0 bs w) :
    Calls Tryd.prog 13 #[.pointer (some ⟨b, 0, none⟩)] w fun e w' => e = .returned (.int .i64 x) ∧ w = w' := by
  have d3 : w.cell? ⟨b, 3, none⟩ = some (.int .i64 x) := h.rest 3 (by omega)
  go_enter Tryd.func13, Tryd.ntmps13
  go_wp2
  go_ret
  exact ⟨rfl, rfl⟩

end Go.Proofs.Qxb6619867aDoor.Pad
