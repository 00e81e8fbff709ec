/- FnRecordGet..: its bound's function (7), widthOK (8), fitsWidth (9); what is plain. -/
import Derived.Test.Qxb6612640aRecInto
import Derived.Test.Qxb6612640aCopyA
namespace Go.Proofs.Qxb6612640a
open Go.RowKit
set_option linter.unusedVariables false

set_option maxHeartbeats 1000000 in
set_option maxRecDepth 100000 in
theorem zz7 (a0 a2 : Option Addr) (l0 c0 l2 c2 : Nat) (b1 b3 : Bool) (f : Int) (w : World) :
    Calls Try.prog 7 #[.slice a0 l0 c0, .bool b1, .slice a2 l2 c2, .bool b3, .int .u8 f] w fun e w' => SomeBool e ∧ w = w' := by
  by_cases h1 : (1048576 : Int) < l0
  · go_enter Try.func7, Try.ntmps7
    go_wp2
    go_ret
    exact ⟨⟨_, rfl⟩, rfl⟩
  by_cases h4 : (1048576 : Int) < l2
  · go_enter Try.func7, Try.ntmps7
    go_wp2
    go_ret
    exact ⟨⟨_, rfl⟩, rfl⟩
  by_cases h5 : (1048576 : Int) < (l0 : Int) + l2
  · go_enter Try.func7, Try.ntmps7
    go_wp2
    go_ret
    exact ⟨⟨_, rfl⟩, rfl⟩
  · go_enter Try.func7, Try.ntmps7
    go_wp2
    go_ret
    exact ⟨⟨_, rfl⟩, rfl⟩

set_option maxHeartbeats 1000000 in
set_option maxRecDepth 100000 in
theorem widthNo (x : Int) (w : World) (h1 : (x == 1) = false) (h2 : (x == 2) = false) (h4 : (x == 4) = false) (h8 : (x == 8) = false) :
    Calls Try.prog 8 #[.int .i64 x] w fun e w' => e = .returned (.bool false) ∧ w = w' := by
  go_enter Try.func8, Try.ntmps8
  go_wp2
  go_ret
  exact ⟨rfl, rfl⟩

set_option maxHeartbeats 1000000 in
set_option maxRecDepth 100000 in
theorem widthYes (x : Int) (w : World) (h : x = 1 ∨ x = 2 ∨ x = 4 ∨ x = 8) :
    Calls Try.prog 8 #[.int .i64 x] w fun e w' => e = .returned (.bool true) ∧ w = w' := by
  rcases h with rfl | rfl | rfl | rfl
  all_goals
    go_enter Try.func8, Try.ntmps8
    go_wp2
    go_ret
    exact ⟨rfl, rfl⟩

/-- A number that width bytes hold. -/
def Fits (width x : Nat) : Prop := x < 256 ^ width

/-- What fitsWidth says: false; or true, and every field is below 256 ^ width. -/
def Said9 (fs : List Nat) (width : Nat) (e : Ending) : Prop := e = .returned (.bool false) ∨ (e = .returned (.bool true) ∧ ∀ j, j < fs.length → Fits width (fs.getD j 0))

set_option maxHeartbeats 1000000 in
set_option maxRecDepth 100000 in
theorem fits_lim (gf nf width lim : Nat) (fs : List Nat) (w : World) (hnf : fs.length = nf) (hn4 : nf ≤ 8) (hw : width = 1 ∧ lim = 256 ∨ width = 2 ∧ lim = 65536 ∨ width = 4 ∧ lim = 4294967296)
    (hf : ∀ j, j < nf → w.cell? ⟨gf, j, none⟩ = some (.int .u64 (fs.getD j 0 : Nat))) :
    Calls Try.prog 9 #[.int .i64 width, .slice (some ⟨gf, 0, none⟩) nf nf] w fun e w' => Said9 fs width e ∧ w = w' := by
  obtain ⟨L, hL⟩ : ∃ L, L = 256 ^ width := ⟨_, rfl⟩
  have HLW : Hid (∀ x, x < L → Fits width x) := fun x h => by unfold Fits; rw [← hL]; exact h
  have HLL : Hid (∀ x, x < lim → x < L) := fun x h => by
    rw [hL]; rcases hw with ⟨rfl, rfl⟩ | ⟨rfl, rfl⟩ | ⟨rfl, rfl⟩ <;> exact h
  have HF := hid hf
  have HN := hid hnf
  clear hL hf hnf
  rcases hw with ⟨rfl, hlim⟩ | ⟨rfl, hlim⟩ | ⟨rfl, hlim⟩
  case' inl => obtain ⟨LM, hLM⟩ : ∃ LM : Int, LM = 256 := ⟨_, rfl⟩
  case' inr.inl => obtain ⟨LM, hLM⟩ : ∃ LM : Int, LM = 65536 := ⟨_, rfl⟩
  case' inr.inr => obtain ⟨LM, hLM⟩ : ∃ LM : Int, LM = 4294967296 := ⟨_, rfl⟩
  all_goals
    have HLM : Hid ((lim : Int) = LM) := by rw [hlim, hLM]; rfl
    clear hlim
    go_enter Try.func9, Try.ntmps9
    go_wp2
    rw [← hLM]
    clear hLM
    go_loop [6] (fun i => ∃ k : Nat, k ≤ nf ∧ i = .int .i64 k ∧ Hid (∀ j, j < k → fs.getD j 0 < L)) (fun i => nf - (intOf i).toNat)
    case atStart => exact ⟨0, by omega, rfl, hid (fun j hj => by omega)⟩
    case round =>
      obtain ⟨k, hk, rfl, HK⟩ := hrel
      by_cases hlt : k < nf
      · have c := HF.out k hlt
        have HS : Hid (fs.getD k 0 < L → ∀ j, j < k + 1 → fs.getD j 0 < L) := fun h j hj => by
          by_cases e : j = k
          · subst e; exact h
          · exact HK.out j (by omega)
        obtain ⟨x, hx⟩ : ∃ x, x = fs.getD k 0 := ⟨_, rfl⟩
        rw [← hx] at c HS
        clear hx HF HK
        go_wp2
        · go_ret
          exact ⟨.inl rfl, rfl⟩
        · go_round
          case rel => exact ⟨k + 1, by omega, by go_num, hid (HS.out (HLL.out x (by have := HLM.out; omega)))⟩
          case measure => simp [intOf]; omega
      · go_wp2
        go_ret
        exact ⟨.inr ⟨rfl, fun j hj => HLW.out _ (HK.out j (by rw [HN.out] at hj; omega))⟩, rfl⟩

set_option maxHeartbeats 1000000 in
set_option maxRecDepth 100000 in
theorem fits_eight (gf nf : Nat) (fs : List Nat) (w : World) (hfs : ∀ j, fs.getD j 0 < 2 ^ 64) :
    Calls Try.prog 9 #[.int .i64 8, .slice (some ⟨gf, 0, none⟩) nf nf] w fun e w' => Said9 fs 8 e ∧ w = w' := by
  have HF := hid hfs
  clear hfs
  go_enter Try.func9, Try.ntmps9
  go_wp2
  go_ret
  exact ⟨.inr ⟨rfl, fun j _ => HF.out j⟩, rfl⟩
end Go.Proofs.Qxb6612640a
