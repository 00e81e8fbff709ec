/- FnSwapScriptMovesUnitsAsPermutation (3): the walk. -/
import Derived.Test.Qxb6612816aLaw
namespace Go.Proofs.Qxb6612816a
open Go.RowKit
set_option linter.unusedVariables false

theorem nums_id {n : Nat} {xs : List Value} (h1 : xs.length = n) (h : ∀ j, j < n → xs[j]? = some (.int .i64 (j : Nat))) : xs = nums (fun k => k) n := by
  apply List.ext_getElem?
  intro j
  by_cases hj : j < n
  · rw [h j hj, nums_at _ n j hj]
  · rw [List.getElem?_eq_none (by omega), List.getElem?_eq_none (by simp [nums]; omega)]

set_option maxHeartbeats 2000000 in
set_option maxRecDepth 100000 in
theorem law_walk (n : Nat) (a : Option Addr) (l c : Nat) (os : Nat → Int) (w : World) (hn : n ≤ 65536) (hl : l ≤ 65536) (hev : ((l : Int) % 2 != 0) = false)
    (hr : 0 < l → ∃ b off, a = some ⟨b, off, none⟩ ∧ b < w.heap.size ∧ ∀ j, j < l → w.cell? ⟨b, off + j, none⟩ = some (.int .i64 (os j))) :
    Calls Try.prog 3 #[.int .i64 n, .slice a l c] w fun e w' => e = .returned (.bool true) ∧ Below w.heap.size w w' := by
  obtain ⟨i3, hi3, hz30, hz31, hz32⟩ := info_parts info3
  have KZ := hid (zz7 n a l c w)
  have KB := hid (build_any n w hn)
  have HR := hid hr
  clear hr
  go_enter Try.func3, Try.ntmps3
  go_wp2_with (go_at_call 7; refine KZ.out.mono ?_; rintro e w' ⟨⟨r, rfl⟩, rfl⟩; cases r)
  · go_ret
    exact ⟨rfl, Below.refl _ _⟩
  clear KZ
  go_loop [5] (fun i => ∃ t : Nat, t ≤ l ∧ i = .int .i64 t ∧ Hid (∀ j, j < t → 0 ≤ os j ∧ os j < n)) (fun i => l - (intOf i).toNat)
  case atStart => exact ⟨0, by omega, rfl, hid (fun j hj => by omega)⟩
  case round =>
    obtain ⟨t, ht, rfl, HB⟩ := hrel
    by_cases hlt : t < l
    · obtain ⟨b, off, rfl, hb, hc⟩ := HR.out (by omega)
      have cell := hc t hlt
      have HS : Hid (0 ≤ os t → os t < n → ∀ j, j < t + 1 → 0 ≤ os j ∧ os j < n) := fun h0 h1 j hj => by
        by_cases e : j = t
        · subst e; exact ⟨h0, h1⟩
        · exact HB.out j (by omega)
      obtain ⟨x, hx⟩ : ∃ x, x = os t := ⟨_, rfl⟩
      rw [← hx] at cell HS
      clear hx hc HB
      by_cases h0 : x < 0
      · go_wp2
        go_ret
        exact ⟨rfl, Below.refl _ _⟩
      by_cases h1 : (n : Int) ≤ x
      · go_wp2
        go_ret
        exact ⟨rfl, Below.refl _ _⟩
      · go_wp2
        go_round
        case rel => exact ⟨t + 1, by omega, by go_num, hid (HS.out (by omega) (by omega))⟩
        case measure => simp [intOf]; omega
    · obtain rfl : t = l := by omega
      go_wp2_with fail
      refine KB.out.mono ?_
      rintro e w1 ⟨gh, go, us, rfl, hbuilt⟩
      have HBU := hid hbuilt
      have B1 := hbuilt.below
      clear hbuilt KB
      go_wp2_with (at_make; refine wpList_make_full _ rfl _ _ 22 rfl w.heap.size 3 i3 (.int .i64 0) 1 Try.underlying22 hi3 hz30 hz31 _ _ _ _ n rfl rfl (by rfl) (by rfl) (by rw [hz32]; omega) (by unfold maxLen; omega) B1.size ?_)
      intro w2 own2 gr2
      have B2 : Below w.heap.size w w2 := B1.grown gr2 B1.size (fun _ h => by cases h)
      have rH := HBU.out.rowH.kept gr2 (.inr (by simp [Value.ownBlock]))
      have rO := HBU.out.rowO.kept gr2 (.inr (by simp [Value.ownBlock]))
      have sH := (HBU.out.rowH.lt _ rfl).2
      have sO := (HBU.out.rowO.lt _ rfl).2
      have HU : Hid (∀ k, k < n → UnitAt w2 (us k) k) := fun k hk => (HBU.out.units k hk).of_block (gr2.block _ (HBU.out.units k hk).lt (by simp))
      obtain ⟨gp, hgp⟩ : ∃ gp, gp = w1.heap.size := ⟨_, rfl⟩
      rw [← hgp] at own2 sH sO ⊢
      have HUL : Hid (∀ q, q < n → us q < gp) := fun q hq => by rw [hgp]; exact (HBU.out.units q hq).lt
      clear hgp gr2 B1
      go_wp2
      go_loopw [9] (fun i wr => ∃ (k : Nat) (ys : List Value), k ≤ n ∧ i = .int .i64 k ∧ wr.ownsRow w.heap.size 3 1 (.slice (some ⟨gp, 0, none⟩) n n) n ys ∧ Hid (∀ j, j < k → ys[j]? = some (.int .i64 (j : Nat))) ∧
          Below w.heap.size w wr ∧ Hid (∀ b, b ≠ gp → wr.heap[b]? = w2.heap[b]?))
        (fun i _ => n - (intOf i).toNat)
      case atStart => exact ⟨0, _, by omega, rfl, own2, hid (fun j hj => by omega), B2, hid (fun b _ => rfl)⟩
      case round =>
        obtain ⟨k, ys, hk, rfl, oP, HY, BW, HK⟩ := hrel
        clear own2 B2
        have gpb : w.heap.size ≤ gp := (oP.lt _ rfl).1
        by_cases hkn : k < n
        · have hyl : ys.length = n := by have := oP.1; omega
          obtain ⟨u, hu⟩ : ∃ u, ys[k]? = some u := ⟨_, List.getElem?_eq_getElem (by omega)⟩
          have c1 := (oP.cellAt k (by omega)).trans hu
          have f1 := oP.frozenAt k
          have HS : Hid (∀ j, j < k + 1 → (ys.set k (.int .i64 (k : Nat)))[j]? = some (.int .i64 (j : Nat))) := fun j hj => by
            by_cases e : j = k
            · subst e; rw [List.getElem?_set_self (by omega)]
            · rw [List.getElem?_set_ne (by omega)]; exact HY.out j (by omega)
          have HK2 : Hid (∀ b, b ≠ gp → (wr.setCell ⟨gp, k, none⟩ (.int .i64 (k : Nat))).heap[b]? = w2.heap[b]?) := fun b hb => (heap_setCell_other wr ⟨gp, k, none⟩ b _ hb).trans (HK.out b hb)
          have HYL := hid hyl
          clear hu hyl HY HK
          go_wp2
          go_roundw
          case rel => exact ⟨k + 1, _, by omega, by go_num, (oP.stored k _).1, HS, BW.setCell (show w.heap.size ≤ gp from gpb) _, HK2⟩
          case measure => simp [intOf]; omega
        · obtain rfl : k = n := by omega
          have hys : ys = nums (fun q => q) k := nums_id (by have := oP.1; omega) HY.out
          rw [hys] at oP
          have HI : Hid (Inv k gh go gp us us (fun q => q) w wr) := { rowH := own_of_block rH (HK.out gh (by omega)), rowO := own_of_block rO (HK.out go (by omega)), rowP := oP, hgo := HBU.out.ne, hgp := by omega, ogp := by omega, eq := fun _ _ => rfl, lt := fun q hq => hq, inj := HBU.out.inj, units := fun q hq => (HU.out q hq).of_block (HK.out _ (by have := HUL.out q hq; omega)), old := HBU.out.old, below := BW }
          clear hys oP HY HK BW rH rO HU HBU
          go_wp2
          obtain ⟨wa, rfl⟩ : ∃ wa : World, wa = wr := ⟨_, rfl⟩
          go_loopw [10] (fun i wr => ∃ (q : Nat) (hs ps : Nat → Nat), 2 * q ≤ t ∧ i = .int .i64 (2 * (q : Int)) ∧ Hid (Inv k gh go gp us hs ps w wr)) (fun i _ => t - (intOf i).toNat)
          case atStart => exact ⟨0, _, _, by omega, rfl, HI⟩
          case round =>
            obtain ⟨q, hs, ps, hq, rfl, HV⟩ := hrel
            clear HI
            by_cases hqt : 2 * q + 1 < t
            · obtain ⟨b, off, rfl, hb, hc⟩ := HR.out (by omega)
              have hb0 := HB.out (2 * q) (by omega)
              have hb1 := HB.out (2 * q + 1) (by omega)
              have ca := (HV.out.below.cell (p := ⟨b, off + 2 * q, none⟩) hb).trans (hc (2 * q) (by omega))
              have cb := (HV.out.below.cell (p := ⟨b, off + (2 * q + 1), none⟩) hb).trans (hc (2 * q + 1) (by omega))
              obtain ⟨x, hx⟩ : ∃ x : Nat, os (2 * q) = (x : Int) := ⟨(os (2 * q)).toNat, by omega⟩
              obtain ⟨y, hy⟩ : ∃ y : Nat, os (2 * q + 1) = (y : Int) := ⟨(os (2 * q + 1)).toNat, by omega⟩
              rw [hx] at ca hb0
              rw [hy] at cb hb1
              have hx' : x < k := by omega
              have hy' : y < k := by omega
              have KS := hid (swap_any gh k x y hs w.heap.size x y wr (by omega) hx' hy' HV.out.rowH (HV.out.units x hx') (HV.out.units y hy') (HV.out.inj x y hx' hy'))
              clear hx hy hc hb0 hb1
              go_wp2_with fail
              refine KS.out.mono ?_
              rintro e w4 ⟨rfl, sw⟩
              have rP := own_of_block HV.out.rowP (sw.block gp (Ne.symm HV.out.hgp) (Ne.symm (unit_ne_nums HV.out.rowP (HV.out.units x hx'))) (Ne.symm (unit_ne_nums HV.out.rowP (HV.out.units y hy'))))
              have px := (rP.cellAt x (by omega)).trans (nums_at ps k x hx')
              have py := (rP.cellAt y (by omega)).trans (nums_at ps k y hy')
              have fx := rP.frozenAt x
              have fy := rP.frozenAt y
              have HN := hid (inv_step HV.out hx' hy' sw)
              obtain ⟨v2, py2⟩ := cell?_setCell_some (w := w4) (p := ⟨gp, x, none⟩) (x := .int .i64 (ps y : Nat)) (q := ⟨gp, y, none⟩) py
              clear KS sw rP
              go_wp2
              go_roundw
              case rel => exact ⟨q + 1, _, _, by omega, by go_num, HN⟩
              case measure => simp [intOf]; omega
            · obtain ⟨wz, rfl⟩ : ∃ wz : World, wz = wr := ⟨_, rfl⟩
              obtain ⟨i60, hi60⟩ := info60
              go_wp2
              go_loopw [14] (fun i wq => ∃ (p d : Nat), p ≤ k ∧ i = .int .i64 p ∧ wq = wz.drewN d) (fun i _ => k - (intOf i).toNat)
              case atStart => exact ⟨0, 0, by omega, rfl, rfl⟩
              case round =>
                obtain ⟨p, d, hp, rfl, rfl⟩ := hrel
                by_cases hpk : p < k
                · have hpl := HV.out.lt p hpk
                  have ch := (HV.out.rowH.cellAt p (by omega)).trans (ptrs_at hs k p hpk)
                  have cp := (HV.out.rowP.cellAt p (by omega)).trans (nums_at ps k p hpk)
                  have co := (HV.out.rowO.cellAt (ps p) (by omega)).trans (ptrs_at us k (ps p) hpl)
                  rw [← HV.out.eq p hpk] at co
                  have KI : Hid (∀ m, Calls Try.prog 10 #[.pointer (some ⟨hs p, 0, none⟩)] (wz.drewN m) fun e w' => e = .returned (.int .i64 p) ∧ wz.drewN m = w') := fun m => index_any (hs p) p (wz.drewN m) ((HV.out.units p hpk).of_block rfl)
                  have hneq : ∀ W : World, (binOp .neq 29 (.pointer (some ⟨hs p, 0, none⟩)) (.pointer (some ⟨hs p, 0, none⟩))).run Try.prog W = .ok (.bool false) W := fun W => Lib.run_neq_ptr_same W _ Try.underlying29 hi60
                  obtain ⟨P, hP⟩ : ∃ P, P = ps p := ⟨_, rfl⟩
                  obtain ⟨H, hH⟩ : ∃ H, H = hs p := ⟨_, rfl⟩
                  rw [← hP] at cp co hpl
                  rw [← hH] at ch co KI hneq
                  clear hP hH
                  go_wp2
                  go_quiet (fail)
                  go_wp2_with (go_at_call 10; refine (KI.out _).mono ?_; rintro e w' ⟨rfl, rfl⟩)
                  go_roundw
                  case rel => exact ⟨p + 1, _, by omega, by go_num, rfl⟩
                  case measure => simp [intOf]; omega
                · go_wp2
                  go_ret
                  exact ⟨rfl, ⟨HV.out.below.os, HV.out.below.tape, HV.out.below.output, HV.out.below.size, HV.out.below.block⟩⟩
end Go.Proofs.Qxb6612816a
