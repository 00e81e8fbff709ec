/- ZZnewUnit (12), ZZindex (10). -/
import Derived.Test.Qxb6612816aRows
import Derived.WalkKit
namespace Go.Proofs.Qxb6612816a
open Go.RowKit
set_option linter.unusedVariables false

theorem hid {p : Prop} (h : p) : Hid p := h

theorem grownBy_trans {a b c : World} {row : Option Nat} (h : a.grownBy b row) (k : b.grownBy c row) : a.grownBy c row :=
  ⟨k.os.trans h.os, k.tape.trans h.tape, k.output.trans h.output, Nat.le_trans h.size k.size, fun i hi hn => (k.block i (Nat.lt_of_lt_of_le hi h.size) hn).trans (h.block i hi hn)⟩

theorem grownBy_below {w w' : World} (h : Below w.heap.size w w') (row : Option Nat) : w.grownBy w' row :=
  ⟨h.os, h.tape, h.output, h.size, fun k hk _ => h.block k hk⟩

/-- A unit lies in block b; its index is k. -/
def UnitAt (w : World) (b : Nat) (k : Int) : Prop := ∃ cs, w.heap[b]? = some (.cells cs 60 (0, 0)) ∧ cs.size = 21 ∧ cs[20]? = some (.int .i64 k)

theorem UnitAt.cell {w : World} {b : Nat} {k : Int} (h : UnitAt w b k) : w.cell? ⟨b, 20, none⟩ = some (.int .i64 k) := by
  obtain ⟨cs, h1, _, h3⟩ := h
  rw [cell_of_row w b 20 cs 60 (0, 0) h1, h3]
theorem UnitAt.free {w : World} {b : Nat} {k : Int} (h : UnitAt w b k) : w.frozen? ⟨b, 20, none⟩ = false := by
  obtain ⟨cs, h1, _, h3⟩ := h
  exact frozen_of_row w b 20 cs 60 h1
theorem UnitAt.lt {w : World} {b : Nat} {k : Int} (h : UnitAt w b k) : b < w.heap.size := by
  obtain ⟨cs, h1, _, h3⟩ := h
  exact (Array.getElem?_eq_some_iff.1 h1).1
theorem UnitAt.of_block {w w' : World} {b : Nat} {k : Int} (h : UnitAt w b k) (e : w'.heap[b]? = w.heap[b]?) : UnitAt w' b k := by
  obtain ⟨cs, h1, h2, h3⟩ := h
  exact ⟨cs, e.trans h1, h2, h3⟩
theorem UnitAt.set {w : World} {b : Nat} {k : Int} (h : UnitAt w b k) (j : Int) : UnitAt (w.setCell ⟨b, 20, none⟩ (.int .i64 j)) b j := by
  obtain ⟨cs, h1, h2, h3⟩ := h
  refine ⟨_, heap_setCell_same w b 20 cs 60 _ h1, by simpa using h2, ?_⟩
  rw [Array.getElem?_setIfInBounds_self, if_pos (by omega)]

set_option maxHeartbeats 1000000 in
set_option maxRecDepth 100000 in
theorem newUnit_any (k : Int) (w : World) :
    Calls Try.prog 12 #[.int .i64 k] w fun e w' => e = .returned (.pointer (some ⟨w.heap.size, 0, none⟩)) ∧ UnitAt w' w.heap.size k ∧ w.grownBy w' none := by
  go_enter Try.func12, Try.ntmps12
  go_wp2
  go_ret
  exact ⟨rfl, ⟨_, heap_alloc_new w _, rfl, rfl⟩, World.grownBy_alloc w _ none⟩

set_option maxHeartbeats 1000000 in
set_option maxRecDepth 100000 in
theorem index_any (b : Nat) (k : Int) (w : World) (h : UnitAt w b k) :
    Calls Try.prog 10 #[.pointer (some ⟨b, 0, none⟩)] w fun e w' => e = .returned (.int .i64 k) ∧ w = w' := by
  have c := h.cell
  clear h
  go_enter Try.func10, Try.ntmps10
  go_wp2
  go_ret
  exact ⟨rfl, rfl⟩

/-- Rows by functions. -/
def ptrs (f : Nat → Nat) (n : Nat) : List Value := (List.range n).map fun k => Value.pointer (some ⟨f k, 0, none⟩)
def nums (f : Nat → Nat) (n : Nat) : List Value := (List.range n).map fun k => Value.int .i64 (f k : Nat)
def upd (f : Nat → Nat) (i x : Nat) (k : Nat) : Nat := if k = i then x else f k
def swap (f : Nat → Nat) (a b : Nat) : Nat → Nat := upd (upd f a (f b)) b (f a)

theorem ptrs_at (f : Nat → Nat) (n k : Nat) (h : k < n) : (ptrs f n)[k]? = some (.pointer (some ⟨f k, 0, none⟩)) := by simp [ptrs, h]
theorem nums_at (f : Nat → Nat) (n k : Nat) (h : k < n) : (nums f n)[k]? = some (.int .i64 (f k : Nat)) := by simp [nums, h]
theorem ptrs_set (f : Nat → Nat) (n i x : Nat) : (ptrs f n).set i (.pointer (some ⟨x, 0, none⟩)) = ptrs (upd f i x) n := by
  apply List.ext_getElem?
  intro k
  by_cases hk : k < n
  · by_cases e : k = i
    · subst e
      rw [List.getElem?_set_self (by simp [ptrs, hk]), ptrs_at _ _ _ hk]; simp [upd]
    · rw [List.getElem?_set_ne (by omega), ptrs_at _ _ _ hk, ptrs_at _ _ _ hk]; simp [upd, e]
  · rw [List.getElem?_eq_none (by simp [ptrs]; omega), List.getElem?_eq_none (by simp [ptrs]; omega)]
theorem nums_set (f : Nat → Nat) (n i x : Nat) : (nums f n).set i (.int .i64 (x : Nat)) = nums (upd f i x) n := by
  apply List.ext_getElem?
  intro k
  by_cases hk : k < n
  · by_cases e : k = i
    · subst e
      rw [List.getElem?_set_self (by simp [nums, hk]), nums_at _ _ _ hk]; simp [upd]
    · rw [List.getElem?_set_ne (by omega), nums_at _ _ _ hk, nums_at _ _ _ hk]; simp [upd, e]
  · rw [List.getElem?_eq_none (by simp [nums]; omega), List.getElem?_eq_none (by simp [nums]; omega)]
theorem swap_at (f : Nat → Nat) (a b k : Nat) : swap f a b k = if k = b then f a else if k = a then f b else f k := by
  unfold swap upd; rfl
theorem ptrs_congr (f g : Nat → Nat) (n : Nat) (h : ∀ k, k < n → f k = g k) : ptrs f n = ptrs g n := by
  unfold ptrs; exact List.map_congr_left fun k hk => by rw [h k (List.mem_range.1 hk)]
end Go.Proofs.Qxb6612816a
