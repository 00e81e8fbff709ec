/- Plain lemmas for FnRecordGet..: words, their bytes, little-endian numbers, high zero words. -/
import Derived.Test.Qxb6612640aPlain
import Derived.Lib.EndianBits
namespace Go.Proofs.Qxb6612640a
open Go.RowKit
set_option linter.unusedVariables false

/-- Words as cells. -/
def wc (ws : List Nat) : List Value := ws.map fun (x : Nat) => Value.int .u64 (x : Int)

theorem wc_at (ws : List Nat) (j : Nat) : (wc ws)[j]? = (ws[j]?).map fun (x : Nat) => Value.int .u64 (x : Int) := by rw [wc, List.getElem?_map]
theorem wc_set (ws : List Nat) (j x : Nat) : (wc ws).set j (.int .u64 (x : Int)) = wc (ws.set j x) := by rw [wc, wc, List.map_set]
theorem wc_length (ws : List Nat) : (wc ws).length = ws.length := by simp [wc]

/-- Byte k of words, the least significant byte of a word first. -/
def byteOf (ws : List Nat) (k : Nat) : Nat := ws.getD (k / 8) 0 / 2 ^ (8 * (k % 8)) % 256

theorem byte_fits (b m : Nat) (hb : b < 256) (hm : m < 8) : b * 2 ^ (8 * m) < 2 ^ 64 := by
  have h1 : 2 ^ (8 * m) ≤ 2 ^ 56 := Nat.pow_le_pow_right (by decide) (by omega)
  have h2 : b * 2 ^ (8 * m) ≤ 255 * 2 ^ 56 := Nat.mul_le_mul (by omega) h1
  have h3 : 255 * 2 ^ 56 < 2 ^ 64 := by decide
  omega

theorem or_byte (x b m : Nat) (hx : x < 2 ^ 64) (hb : b < 256) (hm : m < 8) : bits .or .u64 (x : Int) (IntKind.u64.wrap ((b : Int) * 2 ^ (8 * m))) = ((x ||| b * 2 ^ (8 * m) : Nat) : Int) := by
  have hf := byte_fits b m hb hm
  have e : (b : Int) * 2 ^ (8 * m) = ((b * 2 ^ (8 * m) : Nat) : Int) := by push_cast; rfl
  rw [e, wraps_u64 _ (by omega) (by omega)]
  exact (bits_nat .u64 64 (by decide) wraps_u64 x _ hx hf).2

theorem or_lt (x b m : Nat) (hx : x < 2 ^ 64) (hb : b < 256) (hm : m < 8) : x ||| b * 2 ^ (8 * m) < 2 ^ 64 := Nat.or_lt_two_pow hx (byte_fits b m hb hm)

/-- A byte of 'x | b << 8m'. -/
theorem byte_or (x b m j : Nat) (hb : b < 256) (h0 : x / 2 ^ (8 * m) % 256 = 0) : (x ||| b * 2 ^ (8 * m)) / 2 ^ (8 * j) % 256 = if j = m then b else x / 2 ^ (8 * j) % 256 := by
  have e256 : (256 : Nat) = 2 ^ 8 := by decide
  rw [e256, ← Nat.shiftRight_eq_div_pow, Nat.shiftRight_or_distrib, Nat.or_mod_two_pow, Nat.shiftRight_eq_div_pow, Nat.shiftRight_eq_div_pow]
  split
  · rename_i e
    subst e
    rw [e256] at h0
    rw [h0, Nat.zero_or, Nat.mul_div_cancel _ (Nat.two_pow_pos _), Nat.mod_eq_of_lt (by rw [← e256]; exact hb)]
  · rename_i hne
    have hz : b * 2 ^ (8 * m) / 2 ^ (8 * j) % 2 ^ 8 = 0 := by
      rcases Nat.lt_or_gt_of_ne hne with h | h
      · have e1 : 8 * m = 8 * j + (8 + 8 * (m - j - 1)) := by omega
        rw [e1, Nat.pow_add, Nat.mul_comm (2 ^ (8 * j)), ← Nat.mul_assoc, Nat.mul_div_cancel _ (Nat.two_pow_pos _), Nat.pow_add, Nat.mul_left_comm]
        exact Nat.mul_mod_right _ _
      · have e1 : 8 * j = 8 + (8 * m + 8 * (j - m - 1)) := by omega
        have h2 : b * 2 ^ (8 * m) < 2 ^ (8 * j) := by
          rw [e1, Nat.pow_add]
          have h3 : 2 ^ (8 * m) ≤ 2 ^ (8 * m + 8 * (j - m - 1)) := Nat.pow_le_pow_right (by decide) (by omega)
          have h4 : 0 < 2 ^ (8 * m) := Nat.two_pow_pos _
          calc b * 2 ^ (8 * m) < 2 ^ 8 * 2 ^ (8 * m) := Nat.mul_lt_mul_of_pos_right (by rw [← e256]; exact hb) h4
            _ ≤ 2 ^ 8 * 2 ^ (8 * m + 8 * (j - m - 1)) := Nat.mul_le_mul_left _ h3
        rw [Nat.div_eq_of_lt h2, Nat.zero_mod]
    rw [hz, Nat.or_zero]

/-- One byte laid where there was none. -/
theorem byteOf_set (ws : List Nat) (k b x : Nat) (hb : b < 256) (hx : ws[k / 8]? = some x) (h0 : byteOf ws k = 0) (j : Nat) :
    byteOf (ws.set (k / 8) (x ||| b * 2 ^ (8 * (k % 8)))) j = if j = k then b else byteOf ws j := by
  have hl : k / 8 < ws.length := (List.getElem?_eq_some_iff.1 hx).1
  have hgx : ws.getD (k / 8) 0 = x := by simp [List.getD, hx]
  have h0' : x / 2 ^ (8 * (k % 8)) % 256 = 0 := by rw [← hgx]; exact h0
  unfold byteOf
  by_cases hj : j / 8 = k / 8
  · have e : (ws.set (k / 8) (x ||| b * 2 ^ (8 * (k % 8)))).getD (j / 8) 0 = x ||| b * 2 ^ (8 * (k % 8)) := by
      rw [hj]; simp [List.getD, List.getElem?_set_self hl]
    rw [e, byte_or x b (k % 8) (j % 8) hb h0', hj, hgx]
    by_cases h : j % 8 = k % 8
    · rw [if_pos h, if_pos (by omega)]
    · rw [if_neg h, if_neg (by omega)]
  · have e : (ws.set (k / 8) (x ||| b * 2 ^ (8 * (k % 8)))).getD (j / 8) 0 = ws.getD (j / 8) 0 := by
      simp only [List.getD, List.getElem?_set_ne (Ne.symm hj)]
    rw [e, if_neg (by intro h; exact hj (by rw [h]))]
end Go.Proofs.Qxb6612640a
