/- binary.Uvarint (function 48) at a row that opens with the varint of a number of at most three bytes. -/
import Derived.Test.Qxb6612640aRows
import Derived.Test.Qxb6612640aPlain
import Derived.Lib.VarintBits
import Derived.WalkKit
namespace Go.Proofs.Qxb6612640a
open Go.RowKit

set_option maxHeartbeats 1000000 in
set_option maxRecDepth 100000 in
theorem uv1 (g o n c x : Nat) (w : World) (hx : x < 128) (hn : 1 ≤ n) (_hm : n ≤ 9223372036854775807) (c0 : w.cell? ⟨g, o, none⟩ = some (.int .u8 x)) :
    Calls Try.prog 48 #[.slice (some ⟨g, o, none⟩) n c] w fun e w' => e = .returned (.tuple #[.int .u64 x, .int .i64 1]) ∧ w' = w := by
  have hor : bits .or .u64 0 (x : Int) = (x : Int) := by
    rw [u64_orv0 _ _ (by omega) (by omega) (by omega) (by omega) (by omega)]
    omega
  go_enter Try.func48, Try.ntmps48
  go_wp2
  refine wp_loop_rounds 1 ?_
  rw [rounds_succ]
  go_wp2
  go_ret2
  exact ⟨rfl, rfl⟩

set_option maxHeartbeats 1000000 in
set_option maxRecDepth 100000 in
theorem uv2 (g o n c x : Nat) (w : World) (hx0 : 128 ≤ x) (hx : x < 16384) (hn : 2 ≤ n) (hm : n ≤ 9223372036854775807) (c0 : w.cell? ⟨g, o, none⟩ = some (.int .u8 ((x % 128 + 128 : Nat) : Int)))
    (c1 : w.cell? ⟨g, o + 1, none⟩ = some (.int .u8 ((x / 128 : Nat) : Int))) :
    Calls Try.prog 48 #[.slice (some ⟨g, o, none⟩) n c] w fun e w' => e = .returned (.tuple #[.int .u64 x, .int .i64 2]) ∧ w' = w := by
  generalize hb0 : x % 128 + 128 = b0 at c0
  generalize hb1 : x / 128 = b1 at c1
  have hv : bits .or .u64 0 (IntKind.u64.wrap (IntKind.u64.wrap (bits .and .u8 (b0 : Int) 127))) = (b0 : Int) % 128 := by
    simp (disch := omega) only [u8_and127, u64_wrap_id, u64_orv0]
    omega
  have hor : bits .or .u64 ((b0 : Int) % 128) ((b1 : Int) * 128) = (x : Int) := by
    rw [u64_orv7 _ _ (by omega) (by omega) (by omega) (by omega) (by omega)]
    omega
  have hb0' : 128 ≤ b0 ∧ b0 < 256 := by omega
  have hb1' : b1 < 128 := by omega
  clear hb0 hb1 hx0 hx
  go_enter Try.func48, Try.ntmps48
  go_wp2
  refine wp_loop_rounds 2 ?_
  rw [rounds_succ]
  go_wp2
  rw [rounds_succ]
  go_wp2
  go_ret2
  exact ⟨rfl, rfl⟩

set_option maxHeartbeats 1000000 in
set_option maxRecDepth 100000 in
theorem uv3 (g o n c x : Nat) (w : World) (hx0 : 16384 ≤ x) (hx : x < 2097152) (hn : 3 ≤ n) (hm : n ≤ 9223372036854775807) (c0 : w.cell? ⟨g, o, none⟩ = some (.int .u8 ((x % 128 + 128 : Nat) : Int)))
    (c1 : w.cell? ⟨g, o + 1, none⟩ = some (.int .u8 ((x / 128 % 128 + 128 : Nat) : Int))) (c2 : w.cell? ⟨g, o + 2, none⟩ = some (.int .u8 ((x / 16384 : Nat) : Int))) :
    Calls Try.prog 48 #[.slice (some ⟨g, o, none⟩) n c] w fun e w' => e = .returned (.tuple #[.int .u64 x, .int .i64 3]) ∧ w' = w := by
  generalize hb0 : x % 128 + 128 = b0 at c0
  generalize hb1 : x / 128 % 128 + 128 = b1 at c1
  generalize hb2 : x / 16384 = b2 at c2
  have hv : bits .or .u64 0 (IntKind.u64.wrap (IntKind.u64.wrap (bits .and .u8 (b0 : Int) 127))) = (b0 : Int) % 128 := by
    simp (disch := omega) only [u8_and127, u64_wrap_id, u64_orv0]
    omega
  have hv1 : bits .or .u64 ((b0 : Int) % 128) (IntKind.u64.wrap (IntKind.u64.wrap (bits .and .u8 (b1 : Int) 127) * 128)) = (b0 : Int) % 128 + (b1 : Int) % 128 * 128 := by
    simp (disch := omega) only [u8_and127, u64_wrap_id, u64_orv7]
  have hor : bits .or .u64 ((b0 : Int) % 128 + (b1 : Int) % 128 * 128) ((b2 : Int) * 16384) = (x : Int) := by
    rw [u64_orv14 _ _ (by omega) (by omega) (by omega) (by omega) (by omega)]
    omega
  have hb0' : 128 ≤ b0 ∧ b0 < 256 := by omega
  have hb1' : 128 ≤ b1 ∧ b1 < 256 := by omega
  have hb2' : b2 < 128 := by omega
  clear hb0 hb1 hb2 hx0 hx
  go_enter Try.func48, Try.ntmps48
  go_wp2
  refine wp_loop_rounds 3 ?_
  rw [rounds_succ]
  go_wp2
  rw [rounds_succ]
  go_wp2
  rw [rounds_succ]
  go_wp2
  go_ret2
  exact ⟨rfl, rfl⟩
end Go.Proofs.Qxb6612640a
