/- byteAt (46), width (45), wideField (47), slot (39). -/
import Derived.Test.Qxb6612640aRecLay
namespace Go.Proofs.Qxb6612640a
open Go.RowKit
set_option linter.unusedVariables false

/-- The words ws lie at the head of block g. -/
def Lie (w : World) (g n : Nat) (ws : List Nat) : Prop := ws.length = n ∧ ∀ (j x : Nat), ws[j]? = some x → w.cell? ⟨g, j, none⟩ = some (.int .u64 (x : Int))

theorem byteOf_at (ws : List Nat) (k x : Nat) (hx : ws[k / 8]? = some x) : byteOf ws k = x / 2 ^ (8 * (k % 8)) % 256 := by
  rw [byteOf]; simp [List.getD, hx]

theorem byteOf_lt (ws : List Nat) (k : Nat) : byteOf ws k < 256 := Nat.mod_lt _ (by decide)

theorem ret_u8 {a b : Int} (h : a = b) : Ending.returned (.int .u8 a) = .returned (.int .u8 b) := by rw [h]

set_option maxHeartbeats 1000000 in
set_option maxRecDepth 100000 in
theorem byteAt_any (g n k : Nat) (ws : List Nat) (w : World) (hl : Lie w g n ws) (hn : n ≤ 1048576) (hk : k / 8 < n) :
    Calls Try.prog 46 #[.slice (some ⟨g, 0, none⟩) n n, .int .u64 k] w fun e w' => e = .returned (.int .u8 (byteOf ws k : Nat)) ∧ w = w' := by
  obtain ⟨x, hx⟩ : ∃ x, ws[k / 8]? = some x := ⟨_, List.getElem?_eq_getElem (by rw [hl.1]; exact hk)⟩
  have c := hl.2 _ _ hx
  have HB := hid (byteOf_at ws k x hx)
  clear hl hx
  go_enter Try.func46, Try.ntmps46
  go_wp2
  go_ret
  refine ⟨ret_u8 ?_, rfl⟩
  rw [HB.out]
  push_cast
  rfl

set_option maxHeartbeats 1000000 in
set_option maxRecDepth 100000 in
theorem width_any (g n : Nat) (ws : List Nat) (w : World) (hl : Lie w g n ws) (hn : n ≤ 1048576) (hn1 : 1 ≤ n) :
    Calls Try.prog 45 #[.slice (some ⟨g, 0, none⟩) n n] w fun e w' => e = .returned (.int .i64 (byteOf ws 0 : Nat)) ∧ w = w' := by
  have K := hid (byteAt_any g n 0 ws w hl hn (by omega))
  have hb := byteOf_lt ws 0
  obtain ⟨B, hB⟩ : ∃ B, B = byteOf ws 0 := ⟨_, rfl⟩
  rw [← hB] at K hb ⊢
  clear hl hB
  go_enter Try.func45, Try.ntmps45
  go_wp2_with (go_at_call 46; refine K.out.mono ?_; rintro e w' ⟨rfl, rfl⟩)
  go_ret
  exact ⟨rfl, rfl⟩

/-- The number that m bytes from k on spell, the least first. -/
def tailNum (ws : List Nat) : Nat → Nat → Nat
  | _, 0 => 0
  | k, m + 1 => byteOf ws k + 256 * tailNum ws (k + 1) m

theorem tailNum_lt (ws : List Nat) : ∀ (m k : Nat), tailNum ws k m < 256 ^ m
  | 0, k => by simp [tailNum]
  | m + 1, k => by
    have h1 := byteOf_lt ws k
    have h2 := tailNum_lt ws m (k + 1)
    rw [tailNum, Nat.pow_succ]
    omega

theorem tailNum_of (ws : List Nat) : ∀ (m k V : Nat), (∀ i, i < m → byteOf ws (k + i) = V / 256 ^ i % 256) → V < 256 ^ m → tailNum ws k m = V
  | 0, k, V, _, hV => by simp at hV; subst hV; rfl
  | m + 1, k, V, h, hV => by
    have h0 := h 0 (by omega)
    simp at h0
    have ih := tailNum_of ws m (k + 1) (V / 256) (fun i hi => by
      have := h (i + 1) (by omega)
      rw [show k + 1 + i = k + (i + 1) by omega, this, Nat.pow_succ, Nat.mul_comm, Nat.div_div_eq_div_mul]) (by rw [Nat.pow_succ] at hV; omega)
    rw [tailNum, ih, h0]
    omega

theorem or_low (x b : Nat) (hx : x < 2 ^ 56) (hb : b < 256) : bits .or .u64 ((x : Int) * 256) (b : Int) = ((b + 256 * x : Nat) : Int) := by
  have e : (x : Int) * 256 = ((2 ^ 8 * x : Nat) : Int) := by rw [show (2 : Nat) ^ 8 = 256 from by decide]; omega
  have h64 : (2 : Nat) ^ 64 = 256 * 2 ^ 56 := by decide
  have hx2 : 2 ^ 8 * x < 2 ^ 64 := by rw [h64]; omega
  have hb2 : b < 2 ^ 64 := by omega
  rw [e, (bits_nat .u64 64 (by decide) wraps_u64 _ _ hx2 hb2).2, ← Nat.two_pow_add_eq_or_of_lt (show b < 2 ^ 8 by omega)]
  omega

set_option maxHeartbeats 1000000 in
set_option maxRecDepth 100000 in
theorem wideField_any (g n f width P : Nat) (ws : List Nat) (w : World) (hl : Lie w g n ws) (hn : n ≤ 1048576) (hn1 : 1 ≤ n) (hw : byteOf ws 0 = width) (hw0 : 1 ≤ width) (hw8 : width ≤ 8) (hf : f ≤ 8)
    (hP : f * width = P) (hroom : 1 + P + width ≤ 8 * n) :
    Calls Try.prog 47 #[.slice (some ⟨g, 0, none⟩) n n, .int .i64 f] w fun e w' => e = .returned (.int .u64 (tailNum ws (1 + P) width : Nat)) ∧ w = w' := by
  have K := hid (width_any g n ws w hl hn hn1)
  rw [hw] at K
  have HL := hid hl
  have hmul : (f : Int) * (width : Int) = (P : Int) := by rw [← hP]; push_cast; rfl
  have hPb : P ≤ 64 := by rw [← hP]; exact Nat.mul_le_mul hf hw8
  clear hw hP hl
  go_enter Try.func47, Try.ntmps47
  go_wp2_with (go_at_call 45; refine K.out.mono ?_; rintro e w' ⟨rfl, rfl⟩)
  go_loop [7, 8] (fun x i => ∃ (t X : Nat), t ≤ width ∧ i = .int .u64 ((1 + P + width - t : Nat) : Int) ∧ x = .int .u64 (X : Int) ∧ Hid (X = tailNum ws (1 + P + width - t) t)) (fun _ i => (intOf i).toNat)
  case atStart => exact ⟨0, 0, by omega, by go_num, rfl, hid rfl⟩
  case round =>
    obtain ⟨t, X, ht, rfl, rfl, HX⟩ := hrel
    by_cases hlt : t < width
    · have hXb : X < 2 ^ 56 := by
        rw [HX.out]
        refine Nat.lt_of_lt_of_le (tailNum_lt ws t _) ?_
        have : (256 : Nat) ^ t ≤ 256 ^ 7 := Nat.pow_le_pow_right (by decide) (by omega)
        have e : (256 : Nat) ^ 7 = 2 ^ 56 := by decide
        omega
      obtain ⟨q, hq⟩ : ∃ q, q = 1 + P + width - t := ⟨_, rfl⟩
      have K2 := hid (byteAt_any g n (q - 1) ws w HL.out hn (by omega))
      have hb := byteOf_lt ws (q - 1)
      obtain ⟨b, hbb⟩ : ∃ b, b = byteOf ws (q - 1) := ⟨_, rfl⟩
      rw [← hbb] at K2 hb
      have hor := or_low X b hXb hb
      have HX2 : Hid (b + 256 * X = tailNum ws (q - 1) (t + 1)) := by
        rw [tailNum, ← hbb, show q - 1 + 1 = 1 + P + width - t by omega, ← HX.out]; exact rfl
      have hq1 : 1 + P < q := by omega
      have hq2 : q ≤ 1 + P + width := by omega
      have HQ := hid hq
      rw [← hq]
      clear hbb hq HX
      go_wp2_with (go_at_call 46; rw [show ((q : Int) - 1) = ((q - 1 : Nat) : Int) from by omega]; refine K2.out.mono ?_; rintro e w' ⟨rfl, rfl⟩)
      go_round
      case rel =>
        refine ⟨t + 1, b + 256 * X, by omega, ?_, by go_num, ?_⟩
        · have := HQ.out
          rw [show ((1 + P + width - (t + 1) : Nat) : Int) = (q : Int) - 1 from by omega]
        · have := HQ.out
          rw [show 1 + P + width - (t + 1) = q - 1 by omega]
          exact HX2
      case measure => simp [intOf]; omega
    · obtain rfl : t = width := by omega
      go_wp2
      go_ret
      refine ⟨?_, rfl⟩
      rw [HX.out, Nat.add_sub_cancel]
      rfl
end Go.Proofs.Qxb6612640a
