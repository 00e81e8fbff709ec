/- putUvarint (function 19): onto a row of the call's own in which there is room. -/
import Derived.Test.Qxb6612640aRows
import Derived.Test.Qxb6612640aPlain
import Derived.WalkKit
namespace Go.Proofs.Qxb6612640a
open Go.RowKit

theorem info5 : (Try.prog.info? 5).map (fun i => (i.zero, i.size, i.bytes)) = some (some (.int .u8 0), 1, 1) := by kernel_rfl

set_option maxHeartbeats 1000000 in
set_option maxRecDepth 100000 in
theorem put_any (base g n cap x : Nat) (hx : x < 2097152) (xs : List Value) (w : World) (hown : w.ownsRow base 5 1 (.slice (some ⟨g, 0, none⟩) n cap) n xs)
    (hroom : n + (Lib.uvarint x).length ≤ cap) :
    Calls Try.prog 19 #[.slice (some ⟨g, 0, none⟩) n cap, .int .u64 x] w fun e w' =>
      e = .returned (.slice (some ⟨g, 0, none⟩) (n + (Lib.uvarint x).length) cap) ∧
      w'.ownsRow base 5 1 (.slice (some ⟨g, 0, none⟩) (n + (Lib.uvarint x).length) cap) (n + (Lib.uvarint x).length) (xs ++ Lib.byteCells (Lib.uvarint x)) ∧ w.grownBy w' (some g) := by
  obtain ⟨i0, hi, hz0, hz1, hz2⟩ := info_parts info5
  go_enter Try.func19, Try.ntmps19
  go_wp2
  go_loopw [0, 1] (fun vb vx wr => ∃ (y : Nat) (pre : List UInt8), vx = .int .u64 y ∧ y ≤ x ∧ Lib.uvarint x = pre ++ Lib.uvarint y ∧ vb = .slice (some ⟨g, 0, none⟩) (n + pre.length) cap ∧
      wr.ownsRow base 5 1 (.slice (some ⟨g, 0, none⟩) (n + pre.length) cap) (n + pre.length) (xs ++ Lib.byteCells pre) ∧ w.grownBy wr (some g))
    (fun _ vx _ => (intOf vx).toNat)
  case atStart => exact ⟨x, [], rfl, Nat.le_refl _, rfl, rfl, by simpa [Lib.byteCells] using hown, World.grownBy.refl _ _⟩
  case round =>
    obtain ⟨y, pre, rfl, hy, hsplit0, rfl, hown1, hgr⟩ := hrel
    have hsplit : Hid (Lib.uvarint x = pre ++ Lib.uvarint y) := hsplit0
    have hpl : pre.length + (Lib.uvarint y).length = (Lib.uvarint x).length := by
      have h2 := congrArg List.length hsplit0
      rw [List.length_append] at h2
      omega
    clear hsplit0
    have hyp := Lib.uvarint_pos y
    have hroom' : n + pre.length + 1 ≤ cap := by omega
    have HP := hid hpl
    clear hpl hroom hyp
    by_cases h128 : 128 ≤ y
    · have hor : bits .or .u8 ((y : Int) % 256) 128 = ((y % 128 + 128 : Nat) : Int) := by
        rw [Lib.u8_or128_any _ (by omega) (by omega)]
        omega
      go_wp2_with (at_builtin; refine wpList_append_fits _ rfl _ _ 43 rfl base 5 i0 1 Try.underlying43 hi hz1 g _ cap _ rfl (hown1.alloc _) ⟨wr.heap.size, 0, none⟩ 1 1 [Value.int .u8 ((y % 128 + 128 : Nat) : Int)] rfl rfl ?c1 ?c2 hroom' ?_)
      case c1 =>
        intro j u hj
        match j, hj with
        | 0, hj => simp at hj; subst hj; simp [Addr.add]
      case c2 => intro u hu; simp at hu; subst hu; rfl
      intro w1 hown' hgrow
      have hgr1 : w.grownBy w1 (some g) := grownBy_trans hgr (grownBy_trans (World.grownBy_alloc _ _ _) hgrow)
      go_wp2
      go_roundw
      case rel =>
        refine ⟨y / 128, pre ++ [(y % 128 + 128).toUInt8], by go_num, by omega, by rw [hsplit.out, Lib.uvarint_big h128]; simp, by simp [Nat.add_assoc], ?_, hgr1⟩
        have ec : ((y % 128 + 128 : Nat) : Int) = (y : Int) % 128 + 128 := by omega
        rw [Lib.byteCells_snoc pre (by omega), List.length_append, List.length_singleton, ← Nat.add_assoc, ec]
        exact hown'
      case measure => simp [intOf]; omega
    · have hsm : Lib.uvarint y = [y.toUInt8] := Lib.uvarint_small (by omega)
      have HS := hid hsm
      clear hsm
      go_wp2_with (at_builtin; refine wpList_append_fits _ rfl _ _ 43 rfl base 5 i0 1 Try.underlying43 hi hz1 g _ cap _ rfl (hown1.alloc _) ⟨wr.heap.size, 0, none⟩ 1 1 [Value.int .u8 (y : Int)] rfl rfl ?c1 ?c2 hroom' ?_)
      case c1 =>
        intro j u hj
        match j, hj with
        | 0, hj => simp at hj; subst hj; simp [Addr.add]
      case c2 => intro u hu; simp at hu; subst hu; rfl
      intro w1 hown' hgrow
      have hgr1 : w.grownBy w1 (some g) := grownBy_trans hgr (grownBy_trans (World.grownBy_alloc _ _ _) hgrow)
      go_wp2
      go_ret
      have e : xs ++ Lib.byteCells (Lib.uvarint x) = xs ++ (Lib.byteCells pre ++ [Value.int .u8 (y : Int)]) := by
        rw [hsplit.out, HS.out, Lib.byteCells_snoc pre (by omega)]
      have el : n + (Lib.uvarint x).length = n + pre.length + 1 := by
        rw [hsplit.out, HS.out, List.length_append, List.length_singleton, Nat.add_assoc]
      rw [e, el]
      exact ⟨rfl, hown', hgr1⟩
end Go.Proofs.Qxb6612640a
