/- ZZrecordGetInto (11). -/
import Derived.Test.Qxb6612640aRecGet
import Derived.Test.Qxb6612640aReadsA
namespace Go.Proofs.Qxb6612640a
open Go.RowKit
set_option linter.unusedVariables false

theorem info29 : (Try.prog.info? 29).map (fun i => (i.zero, i.size, i.bytes)) = some (some (.int .u64 0), 1, 8) := by kernel_rfl

theorem copied {ys : List Value} {ws : List Nat} {n : Nat} (h1 : ys.length = n) (h2 : ws.length = n) (h : ∀ j, j < n → ys[j]? = (wc ws)[j]?) : ys = wc ws := by
  apply List.ext_getElem?
  intro j
  by_cases hj : j < n
  · exact h j hj
  · rw [List.getElem?_eq_none (by omega), List.getElem?_eq_none (by rw [wc_length]; omega)]

theorem sign_lt (b : Bool) (T : Nat) : decide (signOf (b && decide (0 < T)) T < 0) = (b && decide (0 < T)) := by
  by_cases h : T = 0
  · subst h; simp [signOf]
  · have h' : 0 < T := by omega
    cases b <;> simp [signOf, h, h']

/-- One cell more is copied. -/
theorem copy_step {ys : List Value} {ws : List Nat} {k x : Nat} (hk : k < ys.length) (hx : ws[k]? = some x) (h : ∀ j, j < k → ys[j]? = (wc ws)[j]?) :
    ∀ j, j < k + 1 → (ys.set k (.int .u64 (x : Int)))[j]? = (wc ws)[j]? := by
  intro j hj
  by_cases e : j = k
  · subst e
    rw [List.getElem?_set_self hk, wc_at, hx]; rfl
  · rw [List.getElem?_set_ne (by omega)]
    exact h j (by omega)

theorem lie_of_own {w : World} {base e g n cap : Nat} {ws : List Nat} (h : w.ownsRow base e 1 (.slice (some ⟨g, 0, none⟩) n cap) n (wc ws)) (hl : ws.length = n) : Lie w g n ws := by
  refine ⟨hl, fun j x hx => ?_⟩
  have hj : j < n := by have := (List.getElem?_eq_some_iff.1 hx).1; omega
  rw [h.cellAt j (by omega), wc_at, hx]; rfl

set_option maxHeartbeats 2000000 in
set_option maxRecDepth 100000 in
theorem into_any (g0 g1 n zl width hw m T : Nat) (b zneg R : Bool) (ws zs ms : List Nat) (w : World) (hr : Rec ws ms width hw n m b) (hl0 : Lie w g0 n ws) (hl1 : Lie w g1 zl zs) (hzl : zl ≤ 65536)
    (hg0 : g0 < w.heap.size) (hg1 : g1 < w.heap.size) (hT : trimLen (fun j => ms.getD j 0) m = T) (hR : (b && decide (0 < T)) = R) :
    Calls Try.prog 11 #[.slice (some ⟨g0, 0, none⟩) n n, .int .i64 0, .slice (some ⟨g1, 0, none⟩) zl zl, .bool zneg] w fun e w' => ∃ g2,
      e = .returned (.tuple #[.slice (some ⟨g2, 0, none⟩) T T, .bool R, .bool true]) ∧
      (∀ j, j < T → w'.cell? ⟨g2, j, none⟩ = some (.int .u64 (ms.getD j 0 : Nat))) ∧ Below w.heap.size w w' := by
  obtain ⟨i51, hi51, hz510, hz511, hz512⟩ := info_parts info51
  obtain ⟨i29, hi29, hz290, hz291, hz292⟩ := info_parts info29
  have hnb : n ≤ 65544 := by have := hr.n_eq; have := hr.hw8; have := hr.m_le; omega
  have hTm : T ≤ m := by rw [← hT]; exact trimLen_le _ _
  have hm6 := hr.m_le
  have HT := hid hT
  have HRR := hid hR
  have HSG : Hid (decide (signOf R T < 0) = R) := by
    rw [← hR]; exact sign_lt b T
  have HR := hid hr
  clear hT hR
  have HL0 := hid hl0
  have HL1 := hid hl1
  clear hr hl0 hl1
  go_enter Try.func11, Try.ntmps11
  go_wp2_with (at_make; refine wpList_make_full _ rfl _ _ 50 rfl w.heap.size 51 i51 (.int .u64 0) 1 Try.underlying50 hi51 hz510 hz511 _ _ _ _ n rfl rfl ?b1 ?b2 ?b3 ?b4 ?b5 ?_)
  case b1 => rfl
  case b2 => rfl
  case b3 => rw [hz512]; omega
  case b4 => unfold maxLen; omega
  case b5 => omega
  intro w1 own1 gr1
  have B1 : Below w.heap.size w w1 := (Below.refl _ _).grown gr1 (Nat.le_refl _) (fun _ h => by cases h)
  clear gr1
  go_wp2
  go_loopw [12] (fun i wr => ∃ (k : Nat) (ys : List Value), k ≤ n ∧ i = .int .i64 k ∧ wr.ownsRow w.heap.size 51 1 (.slice (some ⟨w.heap.size, 0, none⟩) n n) n ys ∧ Hid (∀ j, j < k → ys[j]? = (wc ws)[j]?) ∧ Below w.heap.size w wr)
    (fun i _ => n - (intOf i).toNat)
  case atStart => exact ⟨0, _, by omega, rfl, own1, hid (fun j hj => by omega), B1⟩
  case round =>
    obtain ⟨k, ys, hk, rfl, oR, HY, BW⟩ := hrel
    clear own1 B1
    by_cases hlt : k < n
    · obtain ⟨x, hx⟩ : ∃ x, ws[k]? = some x := ⟨_, List.getElem?_eq_getElem (by rw [HL0.out.1]; exact hlt)⟩
      have c0 := (BW.cell (p := ⟨g0, k, none⟩) hg0).trans (HL0.out.2 k x hx)
      have hyl : ys.length = n := by have := oR.1; omega
      obtain ⟨u, hu⟩ : ∃ u, ys[k]? = some u := ⟨_, List.getElem?_eq_getElem (by omega)⟩
      have c1 := (oR.cellAt k (by omega)).trans hu
      have f1 := oR.frozenAt k
      have HS := hid (copy_step (by omega) hx HY.out)
      clear hu hx HY
      have HYL := hid hyl
      clear hyl
      go_wp2
      go_roundw
      case rel => exact ⟨k + 1, _, by omega, by go_num, (oR.stored k _).1, HS, BW.setCell (Nat.le_refl _) _⟩
      case measure => simp [intOf]; omega
    · obtain rfl : k = n := by omega
      have hys : ys = wc ws := copied (by have := oR.1; omega) HL0.out.1 HY.out
      rw [hys] at oR
      clear hys HY
      obtain ⟨wa, rfl⟩ : ∃ wa : World, wa = wr := ⟨_, rfl⟩
      go_wp2_with (at_make; refine wpList_make_full _ rfl _ _ 49 rfl w.heap.size 51 i51 (.int .u64 0) 1 Try.underlying49 hi51 hz510 hz511 _ _ _ _ zl rfl rfl ?d1 ?d2 ?d3 ?d4 ?d5 ?_)
      case d1 => rfl
      case d2 => rfl
      case d3 => rw [hz512]; omega
      case d4 => unfold maxLen; omega
      case d5 => exact BW.size
      intro w2 own2 gr2
      have B2 : Below w.heap.size w w2 := BW.grown gr2 BW.size (fun _ h => by cases h)
      have oR2 := oR.kept gr2 (.inr (by simp [Value.ownBlock]))
      have s2 : w.heap.size < wa.heap.size := (oR.lt _ rfl).2
      obtain ⟨gw, hgw⟩ : ∃ gw, gw = wa.heap.size := ⟨_, rfl⟩
      rw [← hgw] at own2 s2 ⊢
      clear hgw gr2 oR BW
      go_wp2
      go_loopw [14] (fun i wr => ∃ (j : Nat) (ys : List Value), j ≤ zl ∧ i = .int .i64 j ∧ wr.ownsRow w.heap.size 51 1 (.slice (some ⟨gw, 0, none⟩) zl zl) zl ys ∧ Hid (∀ t, t < j → ys[t]? = (wc zs)[t]?) ∧
          wr.ownsRow w.heap.size 51 1 (.slice (some ⟨w.heap.size, 0, none⟩) k k) k (wc ws) ∧ Below w.heap.size w wr)
        (fun i _ => zl - (intOf i).toNat)
      case atStart => exact ⟨0, _, by omega, rfl, own2, hid (fun j hj => by omega), oR2, B2⟩
      case round =>
        obtain ⟨j, ys, hj, rfl, oZ, HY, oR, BW⟩ := hrel
        clear own2 oR2 B2
        by_cases hlt : j < zl
        · obtain ⟨x, hx⟩ : ∃ x, zs[j]? = some x := ⟨_, List.getElem?_eq_getElem (by rw [HL1.out.1]; exact hlt)⟩
          have c0 := (BW.cell (p := ⟨g1, j, none⟩) hg1).trans (HL1.out.2 j x hx)
          have hyl : ys.length = zl := by have := oZ.1; omega
          obtain ⟨u, hu⟩ : ∃ u, ys[j]? = some u := ⟨_, List.getElem?_eq_getElem (by omega)⟩
          have c1 := (oZ.cellAt j (by omega)).trans hu
          have f1 := oZ.frozenAt j
          have HS := hid (copy_step (by omega) hx HY.out)
          have HYL := hid hyl
          clear hu hx HY hyl
          go_wp2
          go_roundw
          case rel => exact ⟨j + 1, _, by omega, by go_num, (oZ.stored j _).1, HS, oR.kept (oZ.stored j _).2 (.inr (by simp [Value.ownBlock]; omega)), BW.setCell (show w.heap.size ≤ gw by omega) _⟩
          case measure => simp [intOf]; omega
        · obtain rfl : j = zl := by omega
          have hys : ys = wc zs := copied (by have := oZ.1; omega) HL1.out.1 HY.out
          rw [hys] at oZ
          clear hys HY
          obtain ⟨wb, rfl⟩ : ∃ wb : World, wb = wr := ⟨_, rfl⟩
          have z3 : ZAt (wb.alloc (.cells #[.bool false, .slice none 0 0] 54)) wb.heap.size false (.slice none 0 0) := heap_alloc_new wb _
          have oR3 := oR.alloc (.cells #[.bool false, .slice none 0 0] 54)
          have oZ3 := oZ.alloc (.cells #[.bool false, .slice none 0 0] 54)
          have B3 := BW.alloc BW.size (.cells #[.bool false, .slice none 0 0] 54)
          have s3 : gw < wb.heap.size := (oZ.lt _ rfl).2
          have KS := hid (setBits_any wb.heap.size gw j j false _ (fun t => zs.getD t 0) _ z3 (Nat.le_refl _) (by omega) (fun t ht => (oZ3.cellAt t (by omega)).trans (getD_of HL1.out.1 ht)))
          clear oZ oR BW z3
          go_wp2_with fail
          refine KS.out.mono ?_
          rintro e w4 ⟨rfl, z4, gr4⟩
          have oR4 := oR3.kept gr4 (.inr (by simp [Value.ownBlock]; omega))
          have oZ4 := oZ3.kept gr4 (.inr (by simp [Value.ownBlock]; omega))
          have B4 : Below w.heap.size w w4 := B3.grown gr4 B3.size (fun t h => by simp at h; omega)
          have hTz := trimLen_le (fun t => zs.getD t 0) j
          obtain ⟨Tz, hTze⟩ : ∃ Tz, Tz = trimLen (fun t => zs.getD t 0) j := ⟨_, rfl⟩
          rw [← hTze] at z4 hTz
          obtain ⟨gz, hgz⟩ : ∃ gz, gz = wb.heap.size := ⟨_, rfl⟩
          rw [← hgz] at z4 s3 gr4 ⊢
          clear KS hTze oR3 oZ3 B3 hgz
          have KN := hid (neg_any gz Tz j _ false w4 z4 (by omega))
          rcases zneg with _ | _
          case' false =>
            go_wp2_with fail
            obtain ⟨w5, rfl⟩ : ∃ w5 : World, w5 = w4 := ⟨_, rfl⟩
            obtain ⟨s5, z5⟩ : ∃ s5, ZAt w5 gz s5 (.slice (some ⟨gw, 0, none⟩) Tz j) := ⟨_, z4⟩
            have oR5 := oR4
            have oZ5 := oZ4
            have B5 := B4
          case' true =>
            go_wp2_with fail
            refine KN.out.mono ?_
            rintro e w5 ⟨rfl, z5', gr5⟩
            obtain ⟨s5, z5⟩ : ∃ s5, ZAt w5 gz s5 (.slice (some ⟨gw, 0, none⟩) Tz j) := ⟨_, z5'⟩
            have oR5 := oR4.kept gr5 (.inr (by simp [Value.ownBlock]; omega))
            have oZ5 := oZ4.kept gr5 (.inr (by simp [Value.ownBlock]; omega))
            have B5 : Below w.heap.size w w5 := B4.grown gr5 B4.size (fun t h => by simp at h; omega)
            clear z5' gr5
            go_wp2_with fail
          all_goals
            clear z4 oR4 oZ4 B4 KN
            have KG := hid (get_any w.heap.size w.heap.size gz w.heap.size gw Tz j width hw k m s5 b ws ms w5 HR.out (lie_of_own oR5 HL0.out.1) z5 (by simpa using owns_take oZ5 (Nat.zero_le _)) hTz (Nat.le_refl _) (by omega) B5.size)
            clear z5 oR5 oZ5
            refine KG.out.mono ?_
            rintro e w6 ⟨rfl, g', c', z6, hc6, B6'⟩
            have B6 := B5.trans B6'
            rw [HT.out, HRR.out] at z6
            have KB := hid (bits_any gz _ T c' _ w6 z6)
            have hg' : 0 < T → g' < w6.heap.size := fun h => World.block_lt_of_cell? w6 _ (hc6 0 (by omega))
            have HC6 := hid hc6
            clear hc6 KG B5 B6'
            go_wp2_with (first
              | (go_at_call 26; refine KB.out.mono ?_; rintro e w7 ⟨rfl, rfl⟩)
              | (at_make; refine wpList_make_full _ rfl _ _ 27 rfl w.heap.size 29 i29 (.int .u64 0) 1 Try.underlying27 hi29 hz290 hz291 _ _ _ _ T rfl rfl (by rfl) (by rfl) (by rw [hz292]; omega) (by unfold maxLen; omega) B6.size ?_))
            intro w7 own7 gr7
            have B7 : Below w6.heap.size w6 w7 := (Below.refl _ _).grown gr7 (Nat.le_refl _) (fun _ h => by cases h)
            obtain ⟨g2, hg2⟩ : ∃ g2, g2 = w6.heap.size := ⟨_, rfl⟩
            rw [← hg2] at own7 ⊢
            have s7 : g2 < w7.heap.size := (own7.lt _ rfl).2
            clear gr7
            go_wp2
            go_loopw [19] (fun i wr => ∃ (t : Nat) (ys : List Value), t ≤ T ∧ i = .int .i64 t ∧ wr.ownsRow w.heap.size 29 1 (.slice (some ⟨g2, 0, none⟩) T T) T ys ∧ Hid (∀ q, q < t → ys[q]? = (wc ms)[q]?) ∧ Below w6.heap.size w6 wr)
              (fun i _ => T - (intOf i).toNat)
            case atStart => exact ⟨0, _, by omega, rfl, own7, hid (fun j hj => by omega), B7⟩
            case round =>
              obtain ⟨t, ys, ht, rfl, oG, HY, BG⟩ := hrel
              clear own7 B7
              by_cases hlt : t < T
              · have hx : ms[t]? = some (ms.getD t 0) := by
                  have hl : t < ms.length := by rw [HR.out.m_eq]; omega
                  simp [List.getD, List.getElem?_eq_getElem hl]
                have c0 := (BG.cell (p := ⟨g', t, none⟩) (hg' (by omega))).trans (HC6.out t (by omega))
                have hyl : ys.length = T := by have := oG.1; omega
                obtain ⟨u, hu⟩ : ∃ u, ys[t]? = some u := ⟨_, List.getElem?_eq_getElem (by omega)⟩
                have c1 := (oG.cellAt t (by omega)).trans hu
                have f1 := oG.frozenAt t
                have HS := hid (copy_step (by omega) hx HY.out)
                have HYL := hid hyl
                obtain ⟨x, hxx⟩ : ∃ x, x = ms.getD t 0 := ⟨_, rfl⟩
                rw [← hxx] at c0 HS
                clear hu hx HY hyl hxx
                have hg2' := hid hg2
                clear hg2
                go_wp2
                go_roundw
                case rel => exact ⟨t + 1, _, by omega, by go_num, (oG.stored t _).1, HS, BG.setCell (show w6.heap.size ≤ g2 by rw [hg2'.out]; exact Nat.le_refl _) _⟩
                case measure => simp [intOf]; omega
              · obtain rfl : t = T := by omega
                have zG : ZAt wr gz R (.slice (some ⟨g', 0, none⟩) t c') := (BG.block gz z6.lt).trans z6
                have KG := hid (sign_any gz t c' _ R wr zG (by omega))
                obtain ⟨i54, hi54⟩ := info54
                have heql : ∀ W : World, (binOp .eql 35 (.pointer (some ⟨gz, 0, none⟩)) (.pointer (some ⟨gz, 0, none⟩))).run Try.prog W = .ok (.bool true) W := fun W => run_eql_ptr_same W _ Try.underlying35 hi54
                have hsg := HSG.out
                obtain ⟨G, hG⟩ : ∃ G, G = signOf R t := ⟨_, rfl⟩
                rw [← hG] at KG hsg
                have hg2' := hid hg2
                clear hG zG hg2
                go_wp2_with (go_at_call 27; refine KG.out.mono ?_; rintro e w8 ⟨rfl, rfl⟩)
                go_ret3
                exact ⟨g2, rfl, fun q hq => (oG.cellAt q (by omega)).trans ((HY.out q hq).trans (getD_of HR.out.m_eq (by omega))), B6.trans (BG.mono B6.size)⟩
end Go.Proofs.Qxb6612640a
