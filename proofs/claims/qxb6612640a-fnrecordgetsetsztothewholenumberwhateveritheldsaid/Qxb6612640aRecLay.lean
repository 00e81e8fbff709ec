/- layHead (10): the head's bytes, one behind another. -/
import Derived.Test.Qxb6612640aRecPut
namespace Go.Proofs.Qxb6612640a
open Go.RowKit
set_option linter.unusedVariables false

/-- What byte j of a head is to be. -/
def want (width : Nat) (fs : List Nat) (j : Nat) : Nat := if j = 0 then width else fs.getD ((j - 1) / width) 0 / 256 ^ ((j - 1) % width) % 256

/-- The first L bytes are laid, the others are zero. -/
def Laid (width : Nat) (fs ws : List Nat) (n L : Nat) : Prop := ws.length = n ∧ (∀ x ∈ ws, x < 2 ^ 64) ∧ ∀ j, byteOf ws j = if j < L then want width fs j else 0

theorem laid_zero (width : Nat) (fs : List Nat) (n : Nat) : Laid width fs (List.replicate n 0) n 0 := by
  refine ⟨by simp, fun x hx => by rw [List.eq_of_mem_replicate hx]; decide, fun j => ?_⟩
  rw [if_neg (by omega), byteOf]
  have e : (List.replicate n 0).getD (j / 8) 0 = 0 := by
    rw [List.getD, List.getElem?_replicate]; split <;> rfl
  rw [e, Nat.zero_div, Nat.zero_mod]

theorem laid_step {width : Nat} {fs ws : List Nat} {n L : Nat} (h : Laid width fs ws n L) (hL : L / 8 < n) :
    ∃ x, ws[L / 8]? = some x ∧ x < 2 ^ 64 ∧ ∀ b, b < 256 → want width fs L = b → Laid width fs (ws.set (L / 8) (x ||| b * 2 ^ (8 * (L % 8)))) n (L + 1) := by
  obtain ⟨h1, h2, h3⟩ := h
  have hl : L / 8 < ws.length := by omega
  refine ⟨ws[L / 8], List.getElem?_eq_getElem hl, h2 _ (List.getElem_mem hl), fun b hb hw => ⟨by simpa using h1, ?_, fun j => ?_⟩⟩
  · intro x hx
    rcases List.mem_or_eq_of_mem_set hx with h | h
    · exact h2 x h
    · rw [h]; exact or_lt _ b (L % 8) (h2 _ (List.getElem_mem hl)) hb (by omega)
  · rw [byteOf_set ws L b _ hb (List.getElem?_eq_getElem hl) (by rw [h3 L, if_neg (by omega)]) j]
    by_cases e : j = L
    · subst e; rw [if_pos rfl, if_pos (by omega), hw]
    · rw [if_neg e, h3 j]
      by_cases e2 : j < L
      · rw [if_pos e2, if_pos (by omega)]
      · rw [if_neg e2, if_neg (by omega)]

theorem want_at (width : Nat) (fs : List Nat) (f k : Nat) (hk : k < width) : want width fs (1 + f * width + k) = fs.getD f 0 / 256 ^ k % 256 := by
  rw [want, if_neg (by omega), show 1 + f * width + k - 1 = k + f * width by omega, Nat.add_mul_div_right _ _ (by omega), Nat.add_mul_mod_self_right, Nat.div_eq_of_lt hk, Nat.mod_eq_of_lt hk, Nat.zero_add]

set_option maxHeartbeats 1000000 in
set_option maxRecDepth 100000 in
theorem layHead_any (base g gf n width nf : Nat) (fs ws : List Nat) (w : World) (hw0 : 1 ≤ width) (hw8 : width ≤ 8) (hnf : nf = fs.length) (hfs : ∀ x ∈ fs, x < 2 ^ 64) (hnf4 : nf ≤ 8)
    (hown : w.ownsRow base 29 1 (.slice (some ⟨g, 0, none⟩) n n) n (wc ws)) (hl : Laid width fs ws n 0)
    (hn : n ≤ 1048576) (hroom : 1 + nf * width ≤ 8 * n) (hf : ∀ j, j < nf → w.cell? ⟨gf, j, none⟩ = some (.int .u64 (fs.getD j 0 : Nat))) (hgf : gf < w.heap.size) (hne : gf ≠ g) :
    Calls Try.prog 10 #[.slice (some ⟨g, 0, none⟩) n n, .int .i64 width, .slice (some ⟨gf, 0, none⟩) nf nf] w fun e w' => e = .returned (.tuple #[]) ∧
      ∃ ws', w'.ownsRow base 29 1 (.slice (some ⟨g, 0, none⟩) n n) n (wc ws') ∧ Laid width fs ws' n (1 + nf * width) ∧ w.grownBy w' (some g) := by
  have HF := hid hf
  have HL := hid hl
  have HFS := hid hfs
  have HNF := hid hnf
  clear hf hl hfs hnf
  have hp : 0 < nf * width + 1 := by omega
  obtain ⟨x0, hx0, hx064, hst0⟩ := laid_step HL.out (show 0 / 8 < n by omega)
  have L1 := hid (hst0 width (by omega) (by simp [want]))
  have K0 := hid (putByte_any base g n 0 width x0 ws w hown (by omega) hn (by omega) hx0 hx064)
  clear hst0 hx0 HL hown
  obtain ⟨ws0, hws0⟩ : ∃ ws0, ws0 = ws.set (0 / 8) (x0 ||| width * 2 ^ (8 * (0 % 8))) := ⟨_, rfl⟩
  rw [← hws0] at L1 K0
  clear hws0
  go_enter Try.func10, Try.ntmps10
  go_wp2_with (go_at_call 22; refine K0.out.mono ?_; rintro e w1 ⟨rfl, o1, g1⟩)
  clear K0
  go_loopw [6] (fun i wr => ∃ (f : Nat) (ws' : List Nat), f ≤ nf ∧ i = .int .i64 f ∧ wr.ownsRow base 29 1 (.slice (some ⟨g, 0, none⟩) n n) n (wc ws') ∧ Hid (Laid width fs ws' n (1 + f * width)) ∧ w.grownBy wr (some g))
    (fun i _ => nf - (intOf i).toNat)
  case atStart => exact ⟨0, ws0, by omega, rfl, o1, by simpa using L1, g1⟩
  case round =>
    obtain ⟨f, wsf, hf, rfl, oF, LF, gF⟩ := hrel
    clear o1 L1 g1
    by_cases hlt : f < nf
    · have cf : wr.cell? ⟨gf, f, none⟩ = some (.int .u64 (fs.getD f 0 : Nat)) := (World.cell?_of_block (gF.block gf hgf (by simpa using hne))).trans (HF.out f hlt)
      have hV64 : fs.getD f 0 < 2 ^ 64 := by
        have hfl : f < fs.length := by rw [← HNF.out]; omega
        have e : fs.getD f 0 = fs[f] := by simp [List.getD, List.getElem?_eq_getElem hfl]
        rw [e]; exact HFS.out _ (List.getElem_mem hfl)
      have hPb : f * width + width ≤ nf * width := by rw [← Nat.succ_mul]; exact Nat.mul_le_mul_right width (by omega)
      have hPc : nf * width ≤ 8 * 8 := Nat.mul_le_mul hnf4 hw8
      obtain ⟨P, hP⟩ : ∃ P, P = f * width := ⟨_, rfl⟩
      have hmul : (f : Int) * (width : Int) = (P : Int) := by rw [hP]; push_cast; rfl
      have HP := hid hP
      rw [← hP] at LF hPb
      obtain ⟨V0, hV0⟩ : ∃ V0, V0 = fs.getD f 0 := ⟨_, rfl⟩
      rw [← hV0] at cf hV64
      have HV0 := hid hV0
      have hb1 : P + width + 1 ≤ 8 * n := by omega
      have hP64 : P ≤ 64 := by omega
      clear hP hV0 hPb hPc
      obtain ⟨wo, rfl⟩ : ∃ wo : World, wo = wr := ⟨_, rfl⟩
      go_wp2
      go_loopw [7, 8] (fun v i wq => ∃ (k V : Nat) (ws' : List Nat), k ≤ width ∧ i = .int .i64 k ∧ v = .int .u64 V ∧ V < 2 ^ 64 ∧ Hid (V = V0 / 256 ^ k) ∧ wq.ownsRow base 29 1 (.slice (some ⟨g, 0, none⟩) n n) n (wc ws') ∧ Hid (Laid width fs ws' n (1 + P + k)) ∧ w.grownBy wq (some g))
        (fun _ i _ => width - (intOf i).toNat)
      case atStart => exact ⟨0, V0, wsf, by omega, rfl, rfl, hV64, hid (by simp), oF, LF, gF⟩
      case round =>
        obtain ⟨k, V, wsk, hk, rfl, rfl, hV, HV, oK, LK, gK⟩ := hrel
        clear oF LF gF cf
        by_cases hkw : k < width
        · obtain ⟨x, hx, hx64, hst⟩ := laid_step LK.out (show (1 + P + k) / 8 < n by omega)
          have hwant : want width fs (1 + P + k) = V % 256 := by rw [HP.out, want_at width fs f k hkw, ← HV0.out, HV.out]
          have L2 := hid (hst (V % 256) (by omega) hwant)
          have K := hid (putByte_any base g n (1 + P + k) (V % 256) x wsk wr oK (by omega) hn (by omega) hx hx64)
          obtain ⟨ws2, hws2⟩ : ∃ ws2, ws2 = wsk.set ((1 + P + k) / 8) (x ||| V % 256 * 2 ^ (8 * ((1 + P + k) % 8))) := ⟨_, rfl⟩
          rw [← hws2] at L2 K
          clear hst hx hws2 oK LK hwant
          go_wp2_with (go_at_call 22; rw [show (1 + (P : Int) + (k : Int)) = ((1 + P + k : Nat) : Int) from by omega, show ((V : Int) % 256) = ((V % 256 : Nat) : Int) from by omega]; refine K.out.mono ?_; rintro e w2 ⟨rfl, o2, g2⟩)
          go_roundw
          case rel => exact ⟨k + 1, V / 256, ws2, by omega, by go_num, by go_num, by omega, hid (by rw [HV.out, Nat.pow_succ, Nat.div_div_eq_div_mul]), o2, L2, grownBy_trans gK g2⟩
          case measure => simp [intOf]; omega
        · obtain rfl : k = width := by omega
          go_wp2
          go_roundw
          case rel =>
            have e : 1 + (f + 1) * k = 1 + P + k := by rw [HP.out, Nat.succ_mul, Nat.add_assoc]
            exact ⟨f + 1, wsk, by omega, by go_num, oK, by rw [e]; exact LK, gK⟩
          case measure => simp [intOf]; omega
    · obtain rfl : f = nf := by omega
      go_wp2
      go_end0
      exact ⟨rfl, wsf, oF, LF.out, gF⟩
end Go.Proofs.Qxb6612640a
