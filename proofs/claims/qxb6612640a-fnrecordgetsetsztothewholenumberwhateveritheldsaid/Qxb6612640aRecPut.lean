/- putByte (22). -/
import Derived.Test.Qxb6612640aRecPlain
import Derived.Test.Qxb6612640aRows
import Derived.WalkKit
namespace Go.Proofs.Qxb6612640a
open Go.RowKit
set_option linter.unusedVariables false

set_option maxHeartbeats 1000000 in
set_option maxRecDepth 100000 in
theorem putByte_any (base g n k b x : Nat) (ws : List Nat) (w : World) (hown : w.ownsRow base 29 1 (.slice (some ⟨g, 0, none⟩) n n) n (wc ws)) (hk : k / 8 < n) (hn : n ≤ 1048576) (hb : b < 256) (hx : ws[k / 8]? = some x) (hx64 : x < 2 ^ 64) :
    Calls Try.prog 22 #[.slice (some ⟨g, 0, none⟩) n n, .int .i64 k, .int .u8 b] w fun e w' => e = .returned (.tuple #[]) ∧
      w'.ownsRow base 29 1 (.slice (some ⟨g, 0, none⟩) n n) n (wc (ws.set (k / 8) (x ||| b * 2 ^ (8 * (k % 8))))) ∧ w.grownBy w' (some g) := by
  have c1 : w.cell? ⟨g, k / 8, none⟩ = some (.int .u64 x) := by
    rw [hown.cellAt _ (by omega), wc, List.getElem?_map, hx]; rfl
  have f1 := hown.frozenAt (k / 8)
  go_enter Try.func22, Try.ntmps22
  go_wp2
  go_end0
  rw [or_byte x b (k % 8) hx64 hb (by omega)]
  obtain ⟨o, gr⟩ := hown.stored (k / 8) (.int .u64 ((x ||| b * 2 ^ (8 * (k % 8)) : Nat) : Int))
  rw [wc_set] at o
  exact ⟨rfl, o, gr⟩
end Go.Proofs.Qxb6612640a
