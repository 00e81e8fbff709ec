/- FnNameReadsEachNameLaidInOrder (5): no names at all. -/
import Derived.Test.Qxb6612640aReadsB
namespace Go.Proofs.Qxb6612640a
open Go.RowKit
set_option linter.unusedVariables false

set_option maxHeartbeats 2000000 in
set_option maxRecDepth 100000 in
theorem reads_zero (a : Option Addr) (cap : Nat) (w : World) :
    Calls Try.prog 5 #[.slice a 0 cap] w fun e w' => e = .returned (.bool true) ∧ Below w.heap.size w w' := by
  obtain ⟨i5, hi5, hz50, hz51, hz52⟩ := info_parts info5
  obtain ⟨i3, hi3, hz30, hz31, hz32⟩ := info_parts info3
  have HZ : Hid (Calls Try.prog 18 #[.slice a 0 cap] w fun e w' => e = .returned (.bool true) ∧ w = w') := by
    go_enter Try.func18, Try.ntmps18
    go_wp2
    refine wp_loop_rounds 1 ?_
    rw [rounds_succ]
    go_wp2
    go_ret
    exact ⟨rfl, rfl⟩
  go_enter Try.func5, Try.ntmps5
  go_wp2_with (go_at_call 18; refine HZ.out.mono ?_; rintro e w' ⟨rfl, rfl⟩)
  refine wp_loop_rounds 1 ?_
  rw [rounds_succ]
  go_wp2_with (first
          | (at_make; refine wpList_make_own _ rfl _ _ 43 rfl w.heap.size 5 i5 (.int .u8 0) 1 Try.underlying43 hi5 hz50 hz51 _ _ _ 0 rfl rfl ?a1 ?a2 ?a3 ?a4 ?_))
  case a1 => rfl
  case a2 => simp
  case a3 => simp
  case a4 => exact Nat.le_refl _
  intro w1 own1 gr1
  have B1 : Below w.heap.size w w1 := (Below.refl _ _).grown gr1 (Nat.le_refl _) (fun _ h => by cases h)
  go_wp2_with (first
          | (at_make; refine wpList_make_full _ rfl _ _ 44 rfl w.heap.size 3 i3 (.int .i64 0) 1 Try.underlying44 hi3 hz30 hz31 _ _ _ _ 0 rfl rfl ?b1 ?b2 ?b3 ?b4 ?b5 ?_))
  case b1 => rfl
  case b2 => rfl
  case b3 => simp
  case b4 => simp
  case b5 => exact B1.size
  intro w2 own2 gr2
  have B2 : Below w.heap.size w w2 := B1.grown gr2 B1.size (fun _ h => by cases h)
  go_wp2_with (first
          | (at_make; refine wpList_make_full _ rfl _ _ 44 rfl w.heap.size 3 i3 (.int .i64 0) 1 Try.underlying44 hi3 hz30 hz31 _ _ _ _ 0 rfl rfl ?d1 ?d2 ?d3 ?d4 ?d5 ?_))
  case d1 => rfl
  case d2 => rfl
  case d3 => simp
  case d4 => simp
  case d5 => exact B2.size
  intro w3 own3 gr3
  have B3 : Below w.heap.size w w3 := B2.grown gr3 B2.size (fun _ h => by cases h)
  go_wp2
  refine wp_loop_rounds 1 ?_
  rw [rounds_succ]
  go_wp2
  refine wp_loop_rounds 1 ?_
  rw [rounds_succ]
  go_wp2
  go_ret
  exact ⟨rfl, B3⟩
end Go.Proofs.Qxb6612640a
