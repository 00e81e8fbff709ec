/- Plain lemmas: no program in sight. Varints of small numbers read back; worlds that have grown by one row. -/
import Derived.Lib.VarintMem
import Derived.Lib.VarintDec
import Derived.Lib.AppendStr
import Derived.Below
namespace Go.Proofs.Qxb6612640a
open Go.RowKit

/-- What is laid by 'uvarint' reads back, whatever follows (numbers of at most three bytes). -/
theorem dec_uvarint (x : Nat) (hx : x < 2097152) (r : List UInt8) : Lib.uvarintDec (Lib.uvarint x ++ r) = (x, ((Lib.uvarint x).length : Int)) := by
  unfold Lib.uvarintDec
  by_cases h1 : x < 128
  · rw [Lib.uvarint_small h1]
    simp only [List.cons_append, List.nil_append, Lib.uvarintFrom, Lib.toUInt8_toNat (show x < 256 by omega)]
    simp [h1]
  · rw [Lib.uvarint_big (by omega)]
    by_cases h2 : x / 128 < 128
    · rw [Lib.uvarint_small h2]
      simp only [List.cons_append, List.nil_append, Lib.uvarintFrom, Lib.toUInt8_toNat (show x % 128 + 128 < 256 by omega), Lib.toUInt8_toNat (show x / 128 < 256 by omega)]
      rw [if_neg (by omega), if_neg (by omega), if_neg (by omega), if_pos h2, if_neg (by omega)]
      simp
      omega
    · rw [Lib.uvarint_big (by omega), Lib.uvarint_small (show x / 128 / 128 < 128 by omega)]
      simp only [List.cons_append, List.nil_append, Lib.uvarintFrom, Lib.toUInt8_toNat (show x % 128 + 128 < 256 by omega), Lib.toUInt8_toNat (show x / 128 % 128 + 128 < 256 by omega), Lib.toUInt8_toNat (show x / 128 / 128 < 256 by omega)]
      rw [if_neg (by omega), if_neg (by omega), if_neg (by omega), if_neg (by omega), if_neg (by omega), if_pos (by omega), if_neg (by omega)]
      simp
      omega

theorem uvarint_len3 (x : Nat) (hx : x < 2097152) : (Lib.uvarint x).length ≤ 3 := Lib.uvarint_length 2 x (by simpa using hx)

theorem grownBy_trans {a b c : World} {row : Option Nat} (h : a.grownBy b row) (k : b.grownBy c row) : a.grownBy c row :=
  ⟨k.os.trans h.os, k.tape.trans h.tape, k.output.trans h.output, Nat.le_trans h.size k.size, fun i hi hn => (k.block i (Nat.lt_of_lt_of_le hi h.size) hn).trans (h.block i hi hn)⟩

theorem grownBy_below {w w' : World} (h : Below w.heap.size w w') (row : Option Nat) : w.grownBy w' row :=
  ⟨h.os, h.tape, h.output, h.size, fun k hk _ => h.block k hk⟩

theorem hid {p : Prop} (h : p) : Hid p := h

theorem strCells_eq (s : ByteArray) : Lib.strCells s = Lib.byteCells s.data.toList := rfl
end Go.Proofs.Qxb6612640a
