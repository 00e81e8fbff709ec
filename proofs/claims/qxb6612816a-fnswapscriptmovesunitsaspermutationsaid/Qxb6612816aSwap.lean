/- byDeadline.Swap (9). -/
import Derived.Test.Qxb6612816aUnit
import Derived.BigRegion
namespace Go.Proofs.Qxb6612816a
open Go.RowKit
set_option linter.unusedVariables false

set_option maxHeartbeats 1000000 in
set_option maxRecDepth 100000 in
theorem swap_ne (gh n i j bi bj : Nat) (xi xj : Int) (w : World) (hn : n ≤ 1048576) (hi : i < n) (hj : j < n) (hne : i ≠ j)
    (ci : w.cell? ⟨gh, i, none⟩ = some (.pointer (some ⟨bi, 0, none⟩))) (cj : w.cell? ⟨gh, j, none⟩ = some (.pointer (some ⟨bj, 0, none⟩))) (fi : w.frozen? ⟨gh, i, none⟩ = false) (fj : w.frozen? ⟨gh, j, none⟩ = false)
    (ui : w.cell? ⟨bi, 20, none⟩ = some (.int .i64 xi)) (uj : w.cell? ⟨bj, 20, none⟩ = some (.int .i64 xj)) (gi : w.frozen? ⟨bi, 20, none⟩ = false) (gj : w.frozen? ⟨bj, 20, none⟩ = false)
    (h1 : bi ≠ gh) (h2 : bj ≠ gh) (h3 : bi ≠ bj) :
    Calls Try.prog 9 #[.slice (some ⟨gh, 0, none⟩) n n, .int .i64 i, .int .i64 j] w fun e w' => e = .returned (.tuple #[]) ∧
      w' = ((((w.setCell ⟨gh, i, none⟩ (.pointer (some ⟨bj, 0, none⟩))).setCell ⟨gh, j, none⟩ (.pointer (some ⟨bi, 0, none⟩))).setCell ⟨bj, 20, none⟩ (.int .i64 i)).setCell ⟨bi, 20, none⟩ (.int .i64 j)).drew.drew := by
  go_enter Try.func9, Try.ntmps9
  go_wp2
  go_region
  go_wp2
  go_region
  all_goals go_end0
  all_goals exact ⟨rfl, rfl⟩

set_option maxHeartbeats 1000000 in
set_option maxRecDepth 100000 in
theorem swap_same (gh n i bi : Nat) (xi : Int) (w : World) (hn : n ≤ 1048576) (hi : i < n)
    (ci : w.cell? ⟨gh, i, none⟩ = some (.pointer (some ⟨bi, 0, none⟩))) (fi : w.frozen? ⟨gh, i, none⟩ = false)
    (ui : w.cell? ⟨bi, 20, none⟩ = some (.int .i64 xi)) (gi : w.frozen? ⟨bi, 20, none⟩ = false) (h1 : bi ≠ gh) :
    Calls Try.prog 9 #[.slice (some ⟨gh, 0, none⟩) n n, .int .i64 i, .int .i64 i] w fun e w' => e = .returned (.tuple #[]) ∧
      w' = ((((w.setCell ⟨gh, i, none⟩ (.pointer (some ⟨bi, 0, none⟩))).setCell ⟨gh, i, none⟩ (.pointer (some ⟨bi, 0, none⟩))).setCell ⟨bi, 20, none⟩ (.int .i64 i)).setCell ⟨bi, 20, none⟩ (.int .i64 i)).drew.drew := by
  go_enter Try.func9, Try.ntmps9
  go_wp2
  go_region
  go_wp2
  go_region
  all_goals go_end0
  all_goals exact ⟨rfl, rfl⟩

/-- What Swap leaves: the row swapped, the two units' indices set, all else as it was. -/
structure Swapped (gh n i j : Nat) (hs : Nat → Nat) (base : Nat) (w w' : World) : Prop where
  row : w'.ownsRow base 29 1 (.slice (some ⟨gh, 0, none⟩) n n) n (ptrs (swap hs i j) n)
  ui : UnitAt w' (hs j) i
  uj : UnitAt w' (hs i) j
  block : ∀ b, b ≠ gh → b ≠ hs i → b ≠ hs j → w'.heap[b]? = w.heap[b]?
  os : w'.os = w.os
  tape : w'.tape = w.tape
  output : w'.output = w.output
  size : w'.heap.size = w.heap.size

theorem unit_ne_row {w : World} {base gh n b : Nat} {xs : List Value} {k : Int} (h : w.ownsRow base 29 1 (.slice (some ⟨gh, 0, none⟩) n n) n xs) (u : UnitAt w b k) : b ≠ gh := by
  intro e
  obtain ⟨cs, h1, _, _⟩ := u
  rcases h.2 with ⟨h', _⟩ | ⟨g', cap', cur, h', _, hg, _⟩
  · simp at h'
  · simp only [Value.slice.injEq, Option.some.injEq, Addr.mk.injEq, and_true, true_and] at h'
    rw [e, h'.1, hg] at h1
    simp at h1

theorem grownBy_setCell (w : World) (a : Addr) (v : Value) : w.grownBy (w.setCell a v) (some a.block) :=
  ⟨rfl, rfl, rfl, by simp, fun k _ hk => heap_setCell_other w a k v (fun e => hk (by simp [e]))⟩

theorem swapped_mk (gh n i j : Nat) (hs : Nat → Nat) (base : Nat) (xi xj : Int) (w : World) (hown : w.ownsRow base 29 1 (.slice (some ⟨gh, 0, none⟩) n n) n (ptrs hs n))
    (ui : UnitAt w (hs i) xi) (uj : UnitAt w (hs j) xj) (hgi : hs i ≠ gh) (hgj : hs j ≠ gh) (hinj : hs i = hs j → i = j) (w1 w2 w3 w4 : World)
    (e1 : w1 = w.setCell ⟨gh, i, none⟩ (.pointer (some ⟨hs j, 0, none⟩))) (e2 : w2 = w1.setCell ⟨gh, j, none⟩ (.pointer (some ⟨hs i, 0, none⟩)))
    (e3 : w3 = w2.setCell ⟨hs j, 20, none⟩ (.int .i64 i)) (e4 : w4 = w3.setCell ⟨hs i, 20, none⟩ (.int .i64 j)) : Swapped gh n i j hs base w w4.drew.drew := by
  have b1 : ∀ b, b ≠ gh → w1.heap[b]? = w.heap[b]? := fun b h => by rw [e1]; exact heap_setCell_other w ⟨gh, i, none⟩ b _ h
  have b2 : ∀ b, b ≠ gh → w2.heap[b]? = w1.heap[b]? := fun b h => by rw [e2]; exact heap_setCell_other w1 ⟨gh, j, none⟩ b _ h
  have b3 : ∀ b, b ≠ hs j → w3.heap[b]? = w2.heap[b]? := fun b h => by rw [e3]; exact heap_setCell_other w2 ⟨hs j, 20, none⟩ b _ h
  have b4 : ∀ b, b ≠ hs i → w4.heap[b]? = w3.heap[b]? := fun b h => by rw [e4]; exact heap_setCell_other w3 ⟨hs i, 20, none⟩ b _ h
  have o1 : w1.ownsRow base 29 1 (.slice (some ⟨gh, 0, none⟩) n n) n (ptrs (upd hs i (hs j)) n) := by rw [e1, ← ptrs_set]; exact (hown.stored i _).1
  have o2 : w2.ownsRow base 29 1 (.slice (some ⟨gh, 0, none⟩) n n) n (ptrs (swap hs i j) n) := by rw [e2]; unfold swap; rw [← ptrs_set]; exact (o1.stored j _).1
  have o3 : w3.ownsRow base 29 1 (.slice (some ⟨gh, 0, none⟩) n n) n (ptrs (swap hs i j) n) := by
    rw [e3]; exact o2.kept (grownBy_setCell w2 ⟨hs j, 20, none⟩ _) (.inr (by simp [Value.ownBlock]; omega))
  have o4 : w4.ownsRow base 29 1 (.slice (some ⟨gh, 0, none⟩) n n) n (ptrs (swap hs i j) n) := by
    rw [e4]; exact o3.kept (grownBy_setCell w3 ⟨hs i, 20, none⟩ _) (.inr (by simp [Value.ownBlock]; omega))
  have uj2 : UnitAt w2 (hs j) xj := uj.of_block ((b2 _ hgj).trans (b1 _ hgj))
  have ui2 : UnitAt w2 (hs i) xi := ui.of_block ((b2 _ hgi).trans (b1 _ hgi))
  have uj3 : UnitAt w3 (hs j) i := by rw [e3]; exact uj2.set i
  have h4 : UnitAt w4 (hs j) i ∧ UnitAt w4 (hs i) j := by
    by_cases e : hs i = hs j
    · have hij := hinj e
      have : UnitAt w4 (hs i) j := by rw [e4]; rw [← e] at uj3; exact uj3.set j
      refine ⟨?_, this⟩
      rw [← e, hij]; rw [hij] at this; exact this
    · have ui3 : UnitAt w3 (hs i) xi := ui2.of_block (b3 _ e)
      exact ⟨uj3.of_block (b4 _ (fun h => e h.symm)), by rw [e4]; exact ui3.set j⟩
  refine ⟨o4, h4.1, h4.2, fun b h1 h2 h3 => ?_, ?_, ?_, ?_, ?_⟩
  · exact (b4 b h2).trans ((b3 b h3).trans ((b2 b h1).trans (b1 b h1)))
  · show w4.os = w.os; rw [e4, e3, e2, e1]; rfl
  · show w4.tape = w.tape; rw [e4, e3, e2, e1]; rfl
  · show w4.output = w.output; rw [e4, e3, e2, e1]; rfl
  · show w4.heap.size = w.heap.size; rw [e4, e3, e2, e1]; simp

theorem swap_any (gh n i j : Nat) (hs : Nat → Nat) (base : Nat) (xi xj : Int) (w : World) (hn : n ≤ 1048576) (hi : i < n) (hj : j < n) (hown : w.ownsRow base 29 1 (.slice (some ⟨gh, 0, none⟩) n n) n (ptrs hs n))
    (ui : UnitAt w (hs i) xi) (uj : UnitAt w (hs j) xj) (hinj : hs i = hs j → i = j) :
    Calls Try.prog 9 #[.slice (some ⟨gh, 0, none⟩) n n, .int .i64 i, .int .i64 j] w fun e w' => e = .returned (.tuple #[]) ∧ Swapped gh n i j hs base w w' := by
  have ci := (hown.cellAt i (by omega)).trans (ptrs_at hs n i hi)
  have cj := (hown.cellAt j (by omega)).trans (ptrs_at hs n j hj)
  have hgi := unit_ne_row hown ui
  have hgj := unit_ne_row hown uj
  have R := swapped_mk gh n i j hs base xi xj w hown ui uj hgi hgj hinj _ _ _ _ rfl rfl rfl rfl
  by_cases e : i = j
  · subst e
    refine (swap_same gh n i (hs i) xi w hn hi ci (hown.frozenAt i) ui.cell ui.free hgi).mono ?_
    rintro e w' ⟨rfl, rfl⟩
    exact ⟨rfl, R⟩
  · refine (swap_ne gh n i j (hs i) (hs j) xi xj w hn hi hj e ci cj (hown.frozenAt i) (hown.frozenAt j) ui.cell uj.cell ui.free uj.free hgi hgj (fun h => e (hinj h))).mono ?_
    rintro e w' ⟨rfl, rfl⟩
    exact ⟨rfl, R⟩
end Go.Proofs.Qxb6612816a
