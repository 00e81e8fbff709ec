/- toParams (26). -/
import Derived.Test.Qxb6612909aSubA
import Derived.BigRegion
namespace Go.Proofs.Qxb6612909a
open Go.RowKit
set_option linter.unusedVariables false

theorem info89 : (Try.prog.info? 89).map (fun i => (i.zero, i.size, i.bytes)) = some (some (.agg #[.string ⟨#[]⟩, .string ⟨#[]⟩]), 2, 32) := by kernel_rfl

/-- The address is nil, or of a block that w has not. -/
def Fresh (w : World) (a : Option Addr) : Prop := ∀ x, a = some x → w.heap.size ≤ x.block

set_option maxHeartbeats 1000000 in
set_option maxRecDepth 100000 in
theorem toParams_any (a : Option Addr) (n cap : Nat) (f : Nat → ByteArray) (w : World) (hn : n ≤ 1048576) (h : PAt w a n cap f) :
    Calls Try.prog 26 #[.slice a n cap] w fun e w' => ∃ a' c', e = .returned (.slice a' n c') ∧ PAt w' a' n c' f ∧ Fresh w a' ∧ Below w.heap.size w w' := by
  obtain ⟨i89, hi89, hz890, hz891, hz892⟩ := info_parts info89
  have heq : ∀ W : World, (binOp .eql 31 (.slice a n cap) (.slice none 0 0)).run Try.prog W = .ok (.bool a.isNone) W := fun W => Lib.run_eql_slice_nil W 31 55 a n cap 0 0 Try.underlying31
  have HB := hid h
  clear h
  cases a with
  | none =>
    obtain ⟨rfl, rfl⟩ := HB.out.nil rfl
    go_enter Try.func26, Try.ntmps26
    go_wp2
    go_ret
    exact ⟨none, 0, rfl, ⟨fun _ => ⟨rfl, rfl⟩, fun h => by omega⟩, (fun _ h => by cases h), Below.refl _ _⟩
  | some ad =>
    go_enter Try.func26, Try.ntmps26
    go_wp2_with (at_make; refine wpList_make_full _ rfl _ _ 38 rfl w.heap.size 89 i89 (.agg #[.string ⟨#[]⟩, .string ⟨#[]⟩]) 2 Try.underlying38 hi89 hz890 hz891 _ _ _ _ n rfl rfl (by rfl) (by rfl) (by rw [hz892]; omega) (by unfold maxLen; omega) (Nat.le_refl _) ?_)
    intro w1 own1 gr1
    have B1 : Below w.heap.size w w1 := (Below.refl _ _).grown gr1 (Nat.le_refl _) (fun _ h => by cases h)
    clear gr1 heq
    go_wp2
    go_loopw [4] (fun i wr => ∃ (k : Nat) (ys : List Value), k ≤ n ∧ i = .int .i64 k ∧ wr.ownsRow w.heap.size 89 2 (.slice (some ⟨w.heap.size, 0, none⟩) n n) n ys ∧ Hid (∀ j, j < 2 * k → ys[j]? = some (.string (f j))) ∧ Below w.heap.size w wr)
      (fun i _ => n - (intOf i).toNat)
    case atStart => exact ⟨0, _, by omega, rfl, own1, hid (fun j hj => by omega), B1⟩
    case round =>
      obtain ⟨k, ys, hk, rfl, oR, HY, BW⟩ := hrel
      clear own1 B1
      by_cases hlt : k < n
      · obtain ⟨b, off, he, hb, hc⟩ := HB.out.at' (by omega)
        obtain rfl := Option.some.inj he
        obtain ⟨d0, d1⟩ := PAt.pair hc hlt
        have e0 := (BW.cell (p := ⟨b, off + k * 2, none⟩) hb).trans d0
        have e1 := (BW.cell (p := ⟨b, off + k * 2 + 1, none⟩) hb).trans d1
        have hyl : ys.length = n * 2 := oR.1
        obtain ⟨u0, hu0⟩ : ∃ u, ys[k * 2]? = some u := ⟨_, List.getElem?_eq_getElem (by omega)⟩
        obtain ⟨u1, hu1⟩ : ∃ u, ys[k * 2 + 1]? = some u := ⟨_, List.getElem?_eq_getElem (by omega)⟩
        have c0 := (oR.cellAt (k * 2) (by omega)).trans hu0
        have c1 := (oR.cellAt (k * 2 + 1) (by omega)).trans hu1
        have f0 := oR.frozenAt (k * 2)
        have f1 := oR.frozenAt (k * 2 + 1)
        obtain ⟨x, hx⟩ : ∃ x, x = f (k * 2) := ⟨_, rfl⟩
        obtain ⟨y, hy⟩ : ∃ y, y = f (k * 2 + 1) := ⟨_, rfl⟩
        have HS : Hid (∀ j, j < 2 * (k + 1) → ((ys.set (k * 2) (.string x)).set (k * 2 + 1) (.string y))[j]? = some (.string (f j))) := fun j hj => by
          by_cases j1 : j = k * 2 + 1
          · subst j1; rw [List.getElem?_set_self (by rw [List.length_set]; omega), hy]
          · rw [List.getElem?_set_ne (by omega)]
            by_cases j0 : j = k * 2
            · subst j0; rw [List.getElem?_set_self (by omega), hx]
            · rw [List.getElem?_set_ne (by omega)]; exact HY.out j (by omega)
        rw [← hx] at e0
        rw [← hy] at e1
        have HYL := hid hyl
        clear hu0 hu1 hx hy HY hyl hc he d0 d1
        go_wp2
        go_region
        all_goals
          go_wp2
          go_roundw
          case rel => exact ⟨k + 1, _, by omega, by go_num, ((oR.stored (k * 2) _).1.stored (k * 2 + 1) _).1.drew, HS, ((BW.setCell (p := ⟨w.heap.size, k * 2, none⟩) (Nat.le_refl _) _).setCell (p := ⟨w.heap.size, k * 2 + 1, none⟩) (Nat.le_refl _) _).drew⟩
          case measure => simp [intOf]; omega
      · obtain rfl : k = n := by omega
        go_wp2
        go_ret
        exact ⟨_, _, rfl, ⟨(fun h => by cases h), fun _ => ⟨w.heap.size, 0, rfl, (oR.lt _ rfl).2, fun j hj => by rw [Nat.zero_add]; exact (oR.cellAt j (by omega)).trans (HY.out j hj)⟩⟩, (fun _ h => by cases h; exact Nat.le_refl _), BW⟩
end Go.Proofs.Qxb6612909a
