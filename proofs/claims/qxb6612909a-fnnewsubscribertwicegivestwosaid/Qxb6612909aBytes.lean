/- cloneBytes (6), sameBytes (11). -/
import Derived.Test.Qxb6612909aRows
import Derived.Lib.AppendStr
import Derived.Lib.UnsafeStr
import Derived.Lib.SliceRun
import Derived.WalkKit
import Derived.Deep.QuietTactic
import Derived.BigQuiet
namespace Go.Proofs.Qxb6612909a
open Go.RowKit
set_option linter.unusedVariables false

theorem hid {p : Prop} (h : p) : Hid p := h
theorem info5 : (Try.prog.info? 5).map (fun i => (i.zero, i.size, i.bytes)) = some (some (.int .u8 0), 1, 1) := by kernel_rfl

/-- A slice of bytes, nil or not, reads l. -/
structure BytesAt (w : World) (a : Option Addr) (len cap : Nat) (l : List UInt8) : Prop where
  len_eq : l.length = len
  nil : a = none → len = 0 ∧ cap = 0
  at' : 0 < len → ∃ b off, a = some ⟨b, off, none⟩ ∧ b < w.heap.size ∧ ∀ j u, (Lib.byteCells l)[j]? = some u → w.cell? ⟨b, off + j, none⟩ = some u

theorem bc_len (l : List UInt8) : (Lib.byteCells l).length = l.length := by simp [Lib.byteCells]
theorem bc_at (l : List UInt8) (j : Nat) (h : j < l.length) : (Lib.byteCells l)[j]? = some (.int .u8 ((l[j]).toNat : Int)) := by
  rw [Lib.byteCells, List.getElem?_map, List.getElem?_eq_getElem h]; rfl

theorem bytes_of_own {w : World} {base n : Nat} {v : Value} {l : List UInt8} (h : w.ownsRow base 5 1 v n (Lib.byteCells l)) : ∃ a cap, v = .slice a n cap ∧ BytesAt w a n cap l := by
  have hl : l.length = n := by have := h.1; rw [bc_len] at this; omega
  rcases h.2 with ⟨rfl, rfl⟩ | ⟨g, cap, cur, rfl, hb, hg, hnc, hcm, hcs, htake⟩
  · exact ⟨none, 0, rfl, hl, fun _ => ⟨rfl, rfl⟩, fun h => by omega⟩
  · refine ⟨_, cap, rfl, hl, (fun h => by cases h), fun _ => ⟨g, 0, rfl, (Array.getElem?_eq_some_iff.1 hg).1, fun j u hu => ?_⟩⟩
    have hj : j < n := by have := (List.getElem?_eq_some_iff.1 hu).1; rw [bc_len] at this; omega
    rw [Nat.zero_add, h.cellAt j (by omega)]
    exact hu

theorem BytesAt.kept {w w' : World} {a : Option Addr} {len cap : Nat} {l : List UInt8} (h : BytesAt w a len cap l) (hb : Below w.heap.size w w') : BytesAt w' a len cap l := by
  refine ⟨h.len_eq, h.nil, fun h0 => ?_⟩
  obtain ⟨b, off, e, hlt, hc⟩ := h.at' h0
  exact ⟨b, off, e, Nat.lt_of_lt_of_le hlt hb.size, fun j u hu => (hb.cell (p := ⟨b, off + j, none⟩) hlt).trans (hc j u hu)⟩

theorem below_drewN {B : Nat} {w w' : World} (h : Below B w w') (q : Nat) : Below B w (w'.drewN q) := ⟨h.os, h.tape, h.output, h.size, h.block⟩

set_option maxHeartbeats 1000000 in
set_option maxRecDepth 100000 in
theorem clone_any (a : Option Addr) (len cap : Nat) (l : List UInt8) (w : World) (h : BytesAt w a len cap l) (hn : len ≤ 4194304) :
    Calls Try.prog 6 #[.slice a len cap] w fun e w' => ∃ v', e = .returned v' ∧ w'.ownsRow w.heap.size 5 1 v' len (Lib.byteCells l) ∧ Below w.heap.size w w' := by
  obtain ⟨i5, hi5, hz50, hz51, hz52⟩ := info_parts info5
  have heq : ∀ W : World, (binOp .eql 22 (.slice a len cap) (.slice none 0 0)).run Try.prog W = .ok (.bool a.isNone) W := fun W => Lib.run_eql_slice_nil W 22 5 a len cap 0 0 Try.underlying22
  have HB := hid h
  clear h
  cases a with
  | none =>
    obtain ⟨rfl, rfl⟩ := HB.out.nil rfl
    have hl : l = [] := List.eq_nil_of_length_eq_zero HB.out.len_eq
    subst hl
    go_enter Try.func6, Try.ntmps6
    go_wp2
    go_ret
    exact ⟨_, rfl, World.ownsRow_nil _ _ _ _, Below.refl _ _⟩
  | some ad =>
    go_enter Try.func6, Try.ntmps6
    go_wp2_with (at_make; refine wpList_make_full _ rfl _ _ 22 rfl w.heap.size 5 i5 (.int .u8 0) 1 Try.underlying22 hi5 hz50 hz51 _ _ _ _ len rfl rfl (by rfl) (by rfl) (by rw [hz52]; omega) (by unfold maxLen; omega) (Nat.le_refl _) ?_)
    intro w1 own1 gr1
    have B1 : Below w.heap.size w w1 := (Below.refl _ _).grown gr1 (Nat.le_refl _) (fun _ h => by cases h)
    clear gr1 heq
    go_wp2
    go_loopw [4] (fun i wr => ∃ (k : Nat) (ys : List Value), k ≤ len ∧ i = .int .i64 k ∧ wr.ownsRow w.heap.size 5 1 (.slice (some ⟨w.heap.size, 0, none⟩) len len) len ys ∧ Hid (∀ j, j < k → ys[j]? = (Lib.byteCells l)[j]?) ∧ Below w.heap.size w wr)
      (fun i _ => len - (intOf i).toNat)
    case atStart => exact ⟨0, _, by omega, rfl, own1, hid (fun j hj => by omega), B1⟩
    case round =>
      obtain ⟨k, ys, hk, rfl, oR, HY, BW⟩ := hrel
      clear own1 B1
      by_cases hlt : k < len
      · obtain ⟨b, off, he, hb, hc⟩ := HB.out.at' (by omega)
        obtain rfl := Option.some.inj he
        have hkl : k < l.length := by rw [HB.out.len_eq]; exact hlt
        have c0 := (BW.cell (p := ⟨b, off + k, none⟩) hb).trans (hc k _ (bc_at l k hkl))
        have hyl : ys.length = len := by have := oR.1; omega
        obtain ⟨u, hu⟩ : ∃ u, ys[k]? = some u := ⟨_, List.getElem?_eq_getElem (by omega)⟩
        have c1 := (oR.cellAt k (by omega)).trans hu
        have f1 := oR.frozenAt k
        obtain ⟨x, hx⟩ : ∃ x : Int, x = ((l[k]'hkl).toNat : Int) := ⟨_, rfl⟩
        have HS : Hid (∀ j, j < k + 1 → (ys.set k (.int .u8 x))[j]? = (Lib.byteCells l)[j]?) := fun j hj => by
          by_cases e : j = k
          · subst e; rw [List.getElem?_set_self (by omega), bc_at l j hkl, hx]
          · rw [List.getElem?_set_ne (by omega)]; exact HY.out j (by omega)
        rw [← hx] at c0
        have HYL := hid hyl
        clear hu hx HY hyl hc he
        go_wp2
        go_roundw
        case rel => exact ⟨k + 1, _, by omega, by go_num, (oR.stored k _).1, HS, BW.setCell (Nat.le_refl _) _⟩
        case measure => simp [intOf]; omega
      · obtain rfl : k = len := by omega
        have hys : ys = Lib.byteCells l := by
          apply List.ext_getElem?
          intro j
          by_cases hj : j < k
          · exact HY.out j hj
          · rw [List.getElem?_eq_none (by have := oR.1; omega), List.getElem?_eq_none (by rw [bc_len, HB.out.len_eq]; omega)]
        rw [hys] at oR
        clear hys HY
        go_wp2
        go_ret
        exact ⟨_, rfl, oR, BW⟩

set_option maxHeartbeats 1000000 in
set_option maxRecDepth 100000 in
theorem same_any (a1 a2 : Option Addr) (n c1 c2 : Nat) (l : List UInt8) (w : World) (h1 : BytesAt w a1 n c1 l) (h2 : BytesAt w a2 n c2 l) (hn : n ≤ 4194304) :
    Calls Try.prog 11 #[.slice a1 n c1, .slice a2 n c2] w fun e w' => e = .returned (.bool true) ∧ ∃ m, w' = w.drewN m := by
  have H1 := hid h1
  have H2 := hid h2
  clear h1 h2
  go_enter Try.func11, Try.ntmps11
  go_wp2
  go_loopw [5] (fun i wr => ∃ (k m : Nat), k ≤ n ∧ i = .int .i64 k ∧ wr = w.drewN m) (fun i _ => n - (intOf i).toNat)
  case atStart => exact ⟨0, 0, by omega, rfl, rfl⟩
  case round =>
    obtain ⟨k, m, hk, rfl, rfl⟩ := hrel
    by_cases hlt : k < n
    · obtain ⟨b, off, rfl, hb, hc⟩ := H1.out.at' (by omega)
      obtain ⟨b', off', rfl, hb', hc'⟩ := H2.out.at' (by omega)
      have hkl : k < l.length := by rw [H1.out.len_eq]; exact hlt
      have e1 := hc k _ (bc_at l k hkl)
      have e2 := hc' k _ (bc_at l k hkl)
      obtain ⟨x, hx⟩ : ∃ x : Int, x = ((l[k]'hkl).toNat : Int) := ⟨_, rfl⟩
      rw [← hx] at e1 e2
      clear hx hc hc'
      go_wp2
      go_quiet (fail)
      go_wp2
      go_roundw
      case rel => exact ⟨k + 1, _, by omega, by go_num, rfl⟩
      case measure => simp [intOf]; omega
    · go_wp2
      go_ret
      exact ⟨rfl, _, rfl⟩
end Go.Proofs.Qxb6612909a
