/- big.nat.norm (37), big.Int.SetBits (23), Neg (24), Bits (26), Sign (27). -/
import Derived.Test.Qxb6612640aRecRead
import Derived.Lib.Builder
namespace Go.Proofs.Qxb6612640a
open Go.RowKit
set_option linter.unusedVariables false

/-- How many are left of the first n when the last zeros are dropped. -/
def trimLen (f : Nat → Nat) : Nat → Nat
  | 0 => 0
  | n + 1 => if f n = 0 then trimLen f n else n + 1

theorem trimLen_le (f : Nat → Nat) : ∀ n, trimLen f n ≤ n
  | 0 => Nat.le_refl _
  | n + 1 => by
    have := trimLen_le f n
    rw [trimLen]; split <;> omega

theorem trimLen_congr (f h : Nat → Nat) : ∀ n, (∀ j, j < n → f j = h j) → trimLen f n = trimLen h n
  | 0, _ => rfl
  | n + 1, e => by
    rw [trimLen, trimLen, e n (by omega), trimLen_congr f h n (fun j hj => e j (by omega))]

set_option maxHeartbeats 1000000 in
set_option maxRecDepth 100000 in
theorem norm_any (g l c : Nat) (f : Nat → Nat) (w : World) (hlc : l ≤ c) (hc : c ≤ 9223372036854775807) (hcell : ∀ j, j < l → w.cell? ⟨g, j, none⟩ = some (.int .u64 (f j : Nat))) :
    Calls Try.prog 37 #[.slice (some ⟨g, 0, none⟩) l c] w fun e w' => e = .returned (.slice (some ⟨g, 0, none⟩) (trimLen f l) c) ∧ w = w' := by
  have HC := hid hcell
  clear hcell
  go_enter Try.func37, Try.ntmps37
  go_wp2
  go_loop [3] (fun i => ∃ k : Nat, k ≤ l ∧ i = .int .i64 k ∧ Hid (trimLen f l = trimLen f k)) (fun i => (intOf i).toNat)
  case atStart => exact ⟨l, Nat.le_refl _, rfl, hid rfl⟩
  case round =>
    obtain ⟨k, hk, rfl, HT⟩ := hrel
    by_cases h0 : k = 0
    · subst h0
      go_wp2
      go_ret
      exact ⟨by rw [HT.out]; rfl, rfl⟩
    · have cell := HC.out (k - 1) (by omega)
      obtain ⟨q, rfl⟩ : ∃ q, k = q + 1 := ⟨k - 1, by omega⟩
      rw [Nat.add_sub_cancel] at cell
      by_cases hz : f q = 0
      · rw [hz] at cell
        have HT2 : Hid (trimLen f l = trimLen f q) := by
          have := HT.out; rw [trimLen, if_pos hz] at this; exact this
        clear HT hz
        go_wp2
        go_round
        case rel => exact ⟨q, by omega, rfl, HT2⟩
        case measure => simp [intOf]
      · have HT2 : Hid (trimLen f l = q + 1) := by
          have := HT.out; rw [trimLen, if_neg hz] at this; exact this
        obtain ⟨x, hx⟩ : ∃ x, x = f q := ⟨_, rfl⟩
        rw [← hx] at cell hz
        have hz' : ((x : Int) == 0) = false := by simp; omega
        clear HT hx
        go_wp2
        go_ret
        exact ⟨by rw [HT2.out]; rfl, rfl⟩

/-- A big.Int lies in block gz: its sign and its words' slice. -/
def ZAt (w : World) (gz : Nat) (s : Bool) (v : Value) : Prop := w.heap[gz]? = some (.cells #[.bool s, v] 54 (0, 0))

theorem ZAt.neg {w : World} {gz : Nat} {s : Bool} {v : Value} (h : ZAt w gz s v) : w.cell? ⟨gz, 0, none⟩ = some (.bool s) := by rw [cell_of_row w gz 0 _ 54 (0, 0) h]; rfl
theorem ZAt.abs {w : World} {gz : Nat} {s : Bool} {v : Value} (h : ZAt w gz s v) : w.cell? ⟨gz, 1, none⟩ = some v := by rw [cell_of_row w gz 1 _ 54 (0, 0) h]; rfl
theorem ZAt.free {w : World} {gz : Nat} {s : Bool} {v : Value} (h : ZAt w gz s v) (j : Nat) : w.frozen? ⟨gz, j, none⟩ = false := frozen_of_row w gz j _ 54 h
theorem ZAt.lt {w : World} {gz : Nat} {s : Bool} {v : Value} (h : ZAt w gz s v) : gz < w.heap.size := (Array.getElem?_eq_some_iff.1 h).1
theorem ZAt.setAbs {w : World} {gz : Nat} {s : Bool} {v : Value} (h : ZAt w gz s v) (u : Value) : ZAt (w.setCell ⟨gz, 1, none⟩ u) gz s u := heap_setCell_same w gz 1 _ 54 u h
theorem ZAt.setNeg {w : World} {gz : Nat} {s : Bool} {v : Value} (h : ZAt w gz s v) (b : Bool) : ZAt (w.setCell ⟨gz, 0, none⟩ (.bool b)) gz b v := heap_setCell_same w gz 0 _ 54 (.bool b) h
theorem ZAt.kept {w w' : World} {gz : Nat} {s : Bool} {v : Value} {row : Option Nat} (h : ZAt w gz s v) (hg : w.grownBy w' row) (hne : some gz ≠ row) : ZAt w' gz s v := (hg.block gz h.lt hne).trans h
theorem grownBy_setCell (w : World) (a : Addr) (v : Value) : w.grownBy (w.setCell a v) (some a.block) :=
  ⟨rfl, rfl, rfl, by simp, fun k _ hk => heap_setCell_other w a k v (fun e => hk (by simp [e]))⟩

set_option maxHeartbeats 1000000 in
set_option maxRecDepth 100000 in
theorem setBits_any (gz g l c : Nat) (s : Bool) (v0 : Value) (f : Nat → Nat) (w : World) (hz : ZAt w gz s v0) (hlc : l ≤ c) (hc : c ≤ 9223372036854775807) (hcell : ∀ j, j < l → w.cell? ⟨g, j, none⟩ = some (.int .u64 (f j : Nat))) :
    Calls Try.prog 23 #[.pointer (some ⟨gz, 0, none⟩), .slice (some ⟨g, 0, none⟩) l c] w fun e w' => e = .returned (.pointer (some ⟨gz, 0, none⟩)) ∧
      ZAt w' gz false (.slice (some ⟨g, 0, none⟩) (trimLen f l) c) ∧ w.grownBy w' (some gz) := by
  have K := hid (norm_any g l c f w hlc hc hcell)
  have c0 := hz.neg
  have c1 := hz.abs
  have f0 := hz.free 0
  have f1 := hz.free 1
  have R := (hz.setAbs (.slice (some ⟨g, 0, none⟩) (trimLen f l) c)).setNeg false
  have G := grownBy_trans (grownBy_setCell w ⟨gz, 1, none⟩ (.slice (some ⟨g, 0, none⟩) (trimLen f l) c)) (grownBy_setCell _ ⟨gz, 0, none⟩ (.bool false))
  have HR := hid R
  have HG := hid G
  clear R G hcell hz
  go_enter Try.func23, Try.ntmps23
  go_wp2_with (go_at_call 37; refine K.out.mono ?_; rintro e w' ⟨rfl, rfl⟩)
  go_ret
  exact ⟨rfl, HR.out, HG.out⟩

theorem info54 : ∃ i, Try.prog.info? 54 = some i := Option.isSome_iff_exists.1 (by kernel_rfl)

set_option maxHeartbeats 1000000 in
set_option maxRecDepth 100000 in
theorem neg_any (gz l c : Nat) (a : Option Addr) (s : Bool) (w : World) (hz : ZAt w gz s (.slice a l c)) (hl : l ≤ 9223372036854775807) :
    Calls Try.prog 24 #[.pointer (some ⟨gz, 0, none⟩), .pointer (some ⟨gz, 0, none⟩)] w fun e w' => e = .returned (.pointer (some ⟨gz, 0, none⟩)) ∧
      ZAt w' gz (decide (0 < l) && !s) (.slice a l c) ∧ w.grownBy w' (some gz) := by
  obtain ⟨i54, hi54⟩ := info54
  have hneq : ∀ W : World, (binOp .neq 35 (.pointer (some ⟨gz, 0, none⟩)) (.pointer (some ⟨gz, 0, none⟩))).run Try.prog W = .ok (.bool false) W := fun W => Lib.run_neq_ptr_same W _ Try.underlying35 hi54
  have c0 := hz.neg
  have c1 := hz.abs
  have f0 := hz.free 0
  have HR := hid (hz.setNeg (decide (0 < l) && !s))
  have HG := hid (grownBy_setCell w ⟨gz, 0, none⟩ (.bool (decide (0 < l) && !s)))
  clear hz
  by_cases h : l = 0
  · subst h
    go_enter Try.func24, Try.ntmps24
    go_wp2
    go_ret
    exact ⟨rfl, HR.out, HG.out⟩
  · have h' : (0 : Int) < (l : Int) := by omega
    have e : (decide (0 < l) && !s) = !s := by simp; omega
    rw [e] at HR HG ⊢
    clear e h
    go_enter Try.func24, Try.ntmps24
    go_wp2
    go_ret
    exact ⟨rfl, HR.out, HG.out⟩

set_option maxHeartbeats 1000000 in
set_option maxRecDepth 100000 in
theorem bits_any (gz : Nat) (a : Option Addr) (l c : Nat) (s : Bool) (w : World) (hz : ZAt w gz s (.slice a l c)) :
    Calls Try.prog 26 #[.pointer (some ⟨gz, 0, none⟩)] w fun e w' => e = .returned (.slice a l c) ∧ w = w' := by
  have c1 := hz.abs
  clear hz
  go_enter Try.func26, Try.ntmps26
  go_wp2
  go_ret
  exact ⟨rfl, rfl⟩

/-- What Sign says. -/
def signOf (s : Bool) (l : Nat) : Int := if l = 0 then 0 else if s then -1 else 1

set_option maxHeartbeats 1000000 in
set_option maxRecDepth 100000 in
theorem sign_any (gz l c : Nat) (a : Option Addr) (s : Bool) (w : World) (hz : ZAt w gz s (.slice a l c)) (hl : l ≤ 9223372036854775807) :
    Calls Try.prog 27 #[.pointer (some ⟨gz, 0, none⟩)] w fun e w' => e = .returned (.int .i64 (signOf s l)) ∧ w = w' := by
  have c0 := hz.neg
  have c1 := hz.abs
  clear hz
  by_cases h : l = 0
  · subst h
    go_enter Try.func27, Try.ntmps27
    go_wp2
    go_ret
    exact ⟨rfl, rfl⟩
  · have h' : ((l : Int) == 0) = false := by simp; omega
    have e : signOf s l = if s then -1 else 1 := by rw [signOf, if_neg h]
    rw [e]
    cases s
    · go_enter Try.func27, Try.ntmps27
      go_wp2
      go_ret
      exact ⟨rfl, rfl⟩
    · go_enter Try.func27, Try.ntmps27
      go_wp2
      go_ret
      exact ⟨rfl, rfl⟩
end Go.Proofs.Qxb6612640a
