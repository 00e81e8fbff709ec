/- slot (39) of number 0. -/
import Derived.Test.Qxb6612640aRecRead
namespace Go.Proofs.Qxb6612640a
open Go.RowKit
set_option linter.unusedVariables false

theorem and_one (e : Nat) (b : Bool) (h : e % 2 = if b then 1 else 0) (he : e < 2 ^ 64) : (bits .and .u64 (e : Int) 1 != 0) = b := by
  have h1 := (bits_nat .u64 64 (by decide) wraps_u64 e 1 he (by decide)).1
  have e1 : ((1 : Nat) : Int) = 1 := rfl
  rw [e1] at h1
  rw [h1, Nat.and_one_is_mod, h]
  cases b <;> rfl

set_option maxHeartbeats 1000000 in
set_option maxRecDepth 100000 in
theorem slot_any (g n width S E : Nat) (b : Bool) (ws : List Nat) (w : World) (hl : Lie w g n ws) (hn : n ≤ 1048576) (hn1 : 1 ≤ n) (hw : byteOf ws 0 = width) (hw0 : 1 ≤ width) (hw8 : width ≤ 8)
    (hroom : 1 + 4 * width ≤ 8 * n) (hS : tailNum ws (1 + 2 * width) width = S) (hE : tailNum ws (1 + 3 * width) width = E) (hSb : S ≤ 1099511627776) (hEb : E ≤ 1099511627776) (hb : E % 2 = if b then 1 else 0) :
    Calls Try.prog 39 #[.slice (some ⟨g, 0, none⟩) n n, .int .i64 0] w fun e w' => e = .returned (.tuple #[.int .i64 (S / 2 : Nat), .int .i64 (E / 2 : Nat), .bool b]) ∧ w = w' := by
  have K := hid (width_any g n ws w hl hn hn1)
  rw [hw] at K
  have hand := and_one E b hb (Nat.lt_of_le_of_lt hEb (by decide))
  clear hb
  by_cases h1 : width = 1
  · subst h1
    have KS := hid (byteAt_any g n 3 ws w hl hn (by omega))
    have KE := hid (byteAt_any g n 4 ws w hl hn (by omega))
    have eS : byteOf ws 3 = S := by rw [← hS]; simp [tailNum]
    have eE : byteOf ws 4 = E := by rw [← hE]; simp [tailNum]
    have bS := byteOf_lt ws 3
    have bE := byteOf_lt ws 4
    rw [eS] at KS bS
    rw [eE] at KE bE
    clear hl hS hE eS eE hw
    go_enter Try.func39, Try.ntmps39
    go_wp2_with (go_at_call 45; refine K.out.mono ?_; rintro e w' ⟨rfl, rfl⟩)
    refine KS.out.mono ?_
    rintro e w' ⟨rfl, rfl⟩
    go_wp2_with fail
    refine KE.out.mono ?_
    rintro e w' ⟨rfl, rfl⟩
    go_wp2_with fail
    go_ret3
    exact ⟨rfl, rfl⟩
  · have KS := hid (wideField_any g n 2 width (2 * width) ws w hl hn hn1 hw hw0 hw8 (by omega) rfl (by omega))
    have KE := hid (wideField_any g n 3 width (3 * width) ws w hl hn hn1 hw hw0 hw8 (by omega) rfl (by omega))
    rw [hS] at KS
    rw [hE] at KE
    have hne : ((width : Int) == 1) = false := by simp; omega
    clear hl hS hE hw
    go_enter Try.func39, Try.ntmps39
    go_wp2_with (go_at_call 45; refine K.out.mono ?_; rintro e w' ⟨rfl, rfl⟩)
    refine KS.out.mono ?_
    rintro e w' ⟨rfl, rfl⟩
    go_wp2_with fail
    refine KE.out.mono ?_
    rintro e w' ⟨rfl, rfl⟩
    go_wp2_with fail
    go_ret3
    exact ⟨rfl, rfl⟩
end Go.Proofs.Qxb6612640a
