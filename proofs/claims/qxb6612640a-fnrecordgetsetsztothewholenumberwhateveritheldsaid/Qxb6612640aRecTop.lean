/- FnRecordGet.. (3): every input. -/
import Derived.Test.Qxb6612640aRecWalk
namespace Go.Proofs.Qxb6612640a
open Go.RowKit
set_option linter.unusedVariables false

set_option maxHeartbeats 2000000 in
set_option maxRecDepth 100000 in
theorem rec_top (a0 : Option Addr) (m cap0 : Nat) (z0 : List Int) (neg : Bool) (a2 : Option Addr) (zl cap2 : Nat) (z2 : List Int) (zneg : Bool) (x : Int) (w : World) (w0 : IsRow .u64 w a0 m cap0 z0) (w2 : IsRow .u64 w a2 zl cap2 z2)
    (hx0 : 0 ≤ x) (hx1 : x ≤ 255) :
    Calls Try.prog 3 #[.slice a0 m cap0, .bool neg, .slice a2 zl cap2, .bool zneg, .int .u8 x] w fun e w' => e = .returned (.bool true) ∧ Below w.heap.size w w' := by
  have KZ := hid (zz7 a0 a2 m cap0 zl cap2 neg zneg x w)
  by_cases h1 : (65536 : Int) < m
  · clear w0 w2
    go_enter Try.func3, Try.ntmps3
    go_wp2_with (go_at_call 7; refine KZ.out.mono ?_; rintro e w' ⟨⟨r, rfl⟩, rfl⟩; cases r)
    all_goals
      go_ret
      exact ⟨rfl, Below.refl _ _⟩
  by_cases h2 : (65536 : Int) < zl
  · clear w0 w2
    go_enter Try.func3, Try.ntmps3
    go_wp2_with (go_at_call 7; refine KZ.out.mono ?_; rintro e w' ⟨⟨r, rfl⟩, rfl⟩; cases r)
    all_goals
      go_ret
      exact ⟨rfl, Below.refl _ _⟩
  by_cases hW : x = 1 ∨ x = 2 ∨ x = 4 ∨ x = 8
  · obtain ⟨W, rfl⟩ : ∃ W : Nat, x = (W : Int) := ⟨x.toNat, by omega⟩
    obtain ⟨hw, hWh⟩ : ∃ hw, W = 1 ∧ hw = 1 ∨ W = 2 ∧ hw = 2 ∨ W = 4 ∧ hw = 3 ∨ W = 8 ∧ hw = 5 := by
      have : W = 1 ∨ W = 2 ∨ W = 4 ∨ W = 8 := by omega
      rcases this with h | h | h | h
      · exact ⟨1, by omega⟩
      · exact ⟨2, by omega⟩
      · exact ⟨3, by omega⟩
      · exact ⟨5, by omega⟩
    exact rec_walk a0 m cap0 neg a2 zl cap2 zneg W hw _ (numsOf z0 m) (numsOf z2 zl) w (numsOf_len w0) (numsOf_len w2) (by omega) (by omega) (row_at w0) (row_at w2) hWh rfl
  · have g1 : (x == 1) = false := by simp; omega
    have g2 : (x == 2) = false := by simp; omega
    have g4 : (x == 4) = false := by simp; omega
    have g8 : (x == 8) = false := by simp; omega
    have KW := hid (widthNo x w g1 g2 g4 g8)
    clear g1 g2 g4 g8 w0 w2 hW
    go_enter Try.func3, Try.ntmps3
    go_wp2_with (first
      | (go_at_call 7; refine KZ.out.mono ?_; rintro e w' ⟨⟨r, rfl⟩, rfl⟩; cases r)
      | (go_at_call 8; refine KW.out.mono ?_; rintro e w' ⟨rfl, rfl⟩))
    all_goals
      go_ret
      exact ⟨rfl, Below.refl _ _⟩
end Go.Proofs.Qxb6612640a
