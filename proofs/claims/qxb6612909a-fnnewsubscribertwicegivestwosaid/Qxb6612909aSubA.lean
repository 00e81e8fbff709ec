/- addLen (20), paramsBytes (25), sameParams (27). -/
import Derived.Test.Qxb6612909aBytes
namespace Go.Proofs.Qxb6612909a
open Go.RowKit
set_option linter.unusedVariables false

/-- A slice of pairs of strings: nil, or 2n cells from (b, off) on. -/
structure PAt (w : World) (a : Option Addr) (n cap : Nat) (f : Nat → ByteArray) : Prop where
  nil : a = none → n = 0 ∧ cap = 0
  at' : 0 < n → ∃ b off, a = some ⟨b, off, none⟩ ∧ b < w.heap.size ∧ ∀ j, j < 2 * n → w.cell? ⟨b, off + j, none⟩ = some (.string (f j))

theorem PAt.kept {w w' : World} {a : Option Addr} {n cap : Nat} {f : Nat → ByteArray} (h : PAt w a n cap f) (hb : Below w.heap.size w w') : PAt w' a n cap f := by
  refine ⟨h.nil, fun h0 => ?_⟩
  obtain ⟨b, off, e, hlt, hc⟩ := h.at' h0
  exact ⟨b, off, e, Nat.lt_of_lt_of_le hlt hb.size, fun j hj => (hb.cell (p := ⟨b, off + j, none⟩) hlt).trans (hc j hj)⟩

/-- The two cells of the k-th pair, as the walk spells them. -/
theorem PAt.pair {w : World} {b off n : Nat} {f : Nat → ByteArray} (hc : ∀ j, j < 2 * n → w.cell? ⟨b, off + j, none⟩ = some (.string (f j))) {k : Nat} (hk : k < n) :
    w.cell? ⟨b, off + k * 2, none⟩ = some (.string (f (k * 2))) ∧ w.cell? ⟨b, off + k * 2 + 1, none⟩ = some (.string (f (k * 2 + 1))) :=
  ⟨hc _ (by omega), by rw [Nat.add_assoc]; exact hc _ (by omega)⟩

/-- What addLen says is a small number. -/
def Small (e : Ending) : Prop := ∃ r : Nat, r ≤ 2097152 ∧ e = .returned (.int .i64 r)

set_option maxHeartbeats 1000000 in
set_option maxRecDepth 100000 in
theorem addLen_any (n k : Nat) (w : World) : Calls Try.prog 20 #[.int .i64 n, .int .i64 k] w fun e w' => Small e ∧ w = w' := by
  by_cases h1 : (1048576 : Int) < n
  · go_enter Try.func20, Try.ntmps20
    go_wp2
    go_ret
    exact ⟨⟨1048577, by omega, rfl⟩, rfl⟩
  by_cases h2 : (1048576 : Int) < k
  · go_enter Try.func20, Try.ntmps20
    go_wp2
    go_ret
    exact ⟨⟨1048577, by omega, rfl⟩, rfl⟩
  · go_enter Try.func20, Try.ntmps20
    go_wp2
    go_ret
    exact ⟨⟨n + k, by omega, by simp⟩, rfl⟩

set_option maxHeartbeats 1000000 in
set_option maxRecDepth 100000 in
theorem paramsBytes_any (m : Nat) (a : Option Addr) (n cap : Nat) (f : Nat → ByteArray) (w : World) (hm : m ≤ 2097152) (hn : n ≤ 1048576) (h : PAt w a n cap f) :
    Calls Try.prog 25 #[.int .i64 m, .slice a n cap] w fun e w' => Small e ∧ w = w' := by
  have HP := hid h
  clear h
  go_enter Try.func25, Try.ntmps25
  go_wp2
  go_loop [0, 5] (fun t i => ∃ (k q : Nat), k ≤ n ∧ q ≤ 2097152 ∧ i = .int .i64 k ∧ t = .int .i64 q) (fun _ i => n - (intOf i).toNat)
  case atStart => exact ⟨0, m, by omega, hm, rfl, rfl⟩
  case round =>
    obtain ⟨k, q, hk, hq, rfl, rfl⟩ := hrel
    by_cases hlt : k < n
    · by_cases hq2 : (q : Int) ≤ 1048576
      · obtain ⟨b, off, rfl, hb, hc⟩ := HP.out.at' (by omega)
        obtain ⟨c0, c1⟩ := PAt.pair hc hlt
        obtain ⟨x, hx⟩ : ∃ x, x = f (k * 2) := ⟨_, rfl⟩
        obtain ⟨y, hy⟩ : ∃ y, y = f (k * 2 + 1) := ⟨_, rfl⟩
        rw [← hx] at c0
        rw [← hy] at c1
        clear hc hx hy
        have K32 : Hid (Calls Try.prog 20 #[.int .i64 q, .int .i64 32] w fun e w' => Small e ∧ w = w') := addLen_any q 32 w
        go_wp2_with fail
        refine K32.out.mono ?_
        rintro e w' ⟨⟨r1, hr1, rfl⟩, rfl⟩
        go_wp2_with fail
        refine (addLen_any _ _ _).mono ?_
        rintro e w' ⟨⟨r2, hr2, rfl⟩, rfl⟩
        go_wp2_with fail
        refine (addLen_any _ _ _).mono ?_
        rintro e w' ⟨⟨r3, hr3, rfl⟩, rfl⟩
        go_wp2_with fail
        go_round
        case rel => exact ⟨k + 1, r3, by omega, hr3, by go_num, rfl⟩
        case measure => simp [intOf]; omega
      · go_wp2
        go_ret
        exact ⟨⟨q, hq, rfl⟩, rfl⟩
    · go_wp2
      go_ret
      exact ⟨⟨q, hq, rfl⟩, rfl⟩

set_option maxHeartbeats 1000000 in
set_option maxRecDepth 100000 in
theorem sameParams_any (a1 a2 : Option Addr) (n c1 c2 : Nat) (f : Nat → ByteArray) (w : World) (hn : n ≤ 1048576) (h1 : PAt w a1 n c1 f) (h2 : PAt w a2 n c2 f) :
    Calls Try.prog 27 #[.slice a1 n c1, .slice a2 n c2] w fun e w' => e = .returned (.bool true) ∧ ∃ m, w' = w.drewN m := by
  have H1 := hid h1
  have H2 := hid h2
  clear h1 h2
  go_enter Try.func27, Try.ntmps27
  go_wp2
  go_loopw [5] (fun i wr => ∃ (k m : Nat), k ≤ n ∧ i = .int .i64 k ∧ wr = w.drewN m) (fun i _ => n - (intOf i).toNat)
  case atStart => exact ⟨0, 0, by omega, rfl, rfl⟩
  case round =>
    obtain ⟨k, m, hk, rfl, rfl⟩ := hrel
    by_cases hlt : k < n
    · obtain ⟨b, off, rfl, hb, hc⟩ := H1.out.at' (by omega)
      obtain ⟨b', off', rfl, hb', hc'⟩ := H2.out.at' (by omega)
      obtain ⟨d0, d1⟩ := PAt.pair hc hlt
      obtain ⟨e0, e1⟩ := PAt.pair hc' hlt
      obtain ⟨x, hx⟩ : ∃ x, x = f (k * 2) := ⟨_, rfl⟩
      obtain ⟨y, hy⟩ : ∃ y, y = f (k * 2 + 1) := ⟨_, rfl⟩
      rw [← hx] at d0 e0
      rw [← hy] at d1 e1
      clear hc hc' hx hy
      go_wp2
      go_quiet (fail)
      go_wp2
      go_roundw
      case rel => exact ⟨k + 1, _, by omega, by go_num, rfl⟩
      case measure => simp [intOf]; omega
    · go_wp2
      go_ret
      exact ⟨rfl, _, rfl⟩
end Go.Proofs.Qxb6612909a
