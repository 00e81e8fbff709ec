/- FnSwapScript.. (3): every input. -/
import Derived.Test.Qxb6612816aWalk
namespace Go.Proofs.Qxb6612816a
open Go.RowKit
set_option linter.unusedVariables false

/-- A slice of integers that came in: nil; or a row of 'cap' cells, the numbers 'zs'. -/
def IsRow (k : IntKind) (w : World) (a : Option Addr) (len cap : Nat) (zs : List Int) : Prop :=
  (a = none ∧ len = 0 ∧ cap = 0 ∧ zs = []) ∨
  ∃ x, a = some x ∧ len ≤ cap ∧ cap ≤ maxLen ∧ zs.length = cap ∧ (∀ i, i < zs.length → w.cell? (x.add i) = some (.int k (zs.getD i 0))) ∧ ∀ n ∈ zs, (Lit.int k n).wf = true

theorem row_at {w : World} {a : Option Addr} {len cap : Nat} {zs : List Int} (h : IsRow .i64 w a len cap zs) (h0 : 0 < len) :
    ∃ b off, a = some ⟨b, off, none⟩ ∧ b < w.heap.size ∧ ∀ j, j < len → w.cell? ⟨b, off + j, none⟩ = some (.int .i64 ((fun j => zs.getD j 0) j)) := by
  rcases h with ⟨_, rfl, _⟩ | ⟨x, rfl, hl, hm, hz, hc, hwf⟩
  · omega
  · obtain ⟨b, off, spot⟩ := x
    have c0 := hc 0 (by omega)
    have hspot : spot = none := by simpa [Addr.add] using World.cell?_spot c0
    subst hspot
    refine ⟨b, off, rfl, by have := World.block_lt_of_cell? w _ c0; simpa [Addr.add] using this, fun j hj => ?_⟩
    have c := hc j (by omega)
    rw [Addr.add_lit] at c
    exact c

set_option maxHeartbeats 1000000 in
set_option maxRecDepth 100000 in
theorem top (x : Int) (a : Option Addr) (l c : Nat) (zs : List Int) (w : World) (w1 : IsRow .i64 w a l c zs) :
    Calls Try.prog 3 #[.int .i64 x, .slice a l c] w fun e w' => e = .returned (.bool true) ∧ Below w.heap.size w w' := by
  have KZ := hid (zz7 x a l c w)
  by_cases h1 : (65536 : Int) < l
  · clear w1
    go_enter Try.func3, Try.ntmps3
    go_wp2_with (go_at_call 7; refine KZ.out.mono ?_; rintro e w' ⟨⟨r, rfl⟩, rfl⟩; cases r)
    all_goals
      go_ret
      exact ⟨rfl, Below.refl _ _⟩
  by_cases h2 : x < 0
  · clear w1
    go_enter Try.func3, Try.ntmps3
    go_wp2_with (go_at_call 7; refine KZ.out.mono ?_; rintro e w' ⟨⟨r, rfl⟩, rfl⟩; cases r)
    all_goals
      go_ret
      exact ⟨rfl, Below.refl _ _⟩
  by_cases h3 : 65536 < x
  · clear w1
    go_enter Try.func3, Try.ntmps3
    go_wp2_with (go_at_call 7; refine KZ.out.mono ?_; rintro e w' ⟨⟨r, rfl⟩, rfl⟩; cases r)
    all_goals
      go_ret
      exact ⟨rfl, Below.refl _ _⟩
  by_cases h4 : (l : Int) % 2 = 0
  · obtain ⟨n, rfl⟩ : ∃ n : Nat, x = (n : Int) := ⟨x.toNat, by omega⟩
    exact law_walk n a l c _ w (by omega) (by omega) (by simpa using h4) (row_at w1)
  · have h4' : ((l : Int) % 2 != 0) = true := by simpa using h4
    clear w1 h4
    go_enter Try.func3, Try.ntmps3
    go_wp2_with (go_at_call 7; refine KZ.out.mono ?_; rintro e w' ⟨⟨r, rfl⟩, rfl⟩; cases r)
    all_goals
      go_ret
      exact ⟨rfl, Below.refl _ _⟩
end Go.Proofs.Qxb6612816a
