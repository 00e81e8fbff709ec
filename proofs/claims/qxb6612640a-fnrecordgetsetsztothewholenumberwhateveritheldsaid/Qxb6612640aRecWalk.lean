/- FnRecordGetSetsZToTheWholeNumberWhateverItHeld (3): the walk. -/
import Derived.Test.Qxb6612640aRecA
import Derived.Deep.QuietTactic
import Derived.BigQuiet
namespace Go.Proofs.Qxb6612640a
open Go.RowKit
set_option linter.unusedVariables false

/-- The numbers of a slice that came in. -/
def numsOf (zs : List Int) (len : Nat) : List Nat := (zs.take len).map Int.toNat

theorem row_at {w : World} {a : Option Addr} {len cap : Nat} {zs : List Int} (h : IsRow .u64 w a len cap zs) (h0 : 0 < len) :
    ∃ b off, a = some ⟨b, off, none⟩ ∧ b < w.heap.size ∧ ∀ j, j < len → w.cell? ⟨b, off + j, none⟩ = some (.int .u64 ((numsOf zs len).getD j 0 : Nat)) := by
  rcases h with ⟨_, rfl, _⟩ | ⟨x, rfl, hl, hm, hz, hc, hwf⟩
  · omega
  · obtain ⟨b, off, spot⟩ := x
    have c0 := hc 0 (by omega)
    have hspot : spot = none := by simpa [Addr.add] using World.cell?_spot c0
    subst hspot
    refine ⟨b, off, rfl, by have := World.block_lt_of_cell? w _ c0; simpa [Addr.add] using this, fun j hj => ?_⟩
    have c := hc j (by omega)
    rw [Addr.add_lit] at c
    rw [c]
    have hj' : j < zs.length := by omega
    have hw := hwf _ (List.getElem_mem hj')
    have e1 : zs.getD j 0 = zs[j] := by simp [List.getD, List.getElem?_eq_getElem hj']
    have e2 : (numsOf zs len).getD j 0 = zs[j].toNat := by
      simp [numsOf, List.getD, hj, List.getElem?_eq_getElem hj']
    have h0 : 0 ≤ zs[j] := by
      simp [Lit.wf, IntKind.min, IntKind.max, IntKind.signed, IntKind.bits] at hw
      omega
    rw [e1, e2, Int.toNat_of_nonneg h0]

theorem numsOf_len {k : IntKind} {w : World} {a : Option Addr} {len cap : Nat} {zs : List Int} (h : IsRow k w a len cap zs) : (numsOf zs len).length = len := by
  rw [numsOf, List.length_map, isRow_len h]

theorem rec_of (W hw m n Ev : Nat) (b : Bool) (fs ws' ws1 ms : List Nat) (hfs : fs = [1, 0, 2 * hw, Ev]) (hE : Ev = 2 * (hw + m) + if b then 1 else 0) (hl : Laid W fs ws' n (1 + 4 * W)) (hn : n = hw + m)
    (h1 : ws1.length = n) (hsame : ∀ j, j < hw → ws1[j]? = ws'[j]?) (hat : ∀ j, j < m → ws1[hw + j]? = some (ms.getD j 0)) (hfit : ∀ j, j < fs.length → Fits W (fs.getD j 0)) (hms : ms.length = m)
    (hh1 : 1 ≤ hw) (hh8 : hw ≤ 5) (hm : m ≤ 65536) (hW1 : 1 ≤ W) (hW8 : W ≤ 8) (hroom : 1 + 4 * W ≤ 8 * hw) : Rec ws1 ms W hw n m b := by
  have hbyte : ∀ k, k < 1 + 4 * W → byteOf ws1 k = want W fs k := by
    intro k hk
    have e : ws1.getD (k / 8) 0 = ws'.getD (k / 8) 0 := by simp only [List.getD, hsame (k / 8) (by omega)]
    have h := hl.2.2 k
    rw [if_pos hk] at h
    rw [← h, byteOf, byteOf, e]
  have hfl : fs.length = 4 := by rw [hfs]; rfl
  have hnum : ∀ f, f < 4 → tailNum ws1 (1 + f * W) W = fs.getD f 0 := by
    intro f hf
    refine tailNum_of ws1 W _ _ (fun i hi => ?_) (hfit f (by omega))
    have h3 : f * W + W ≤ 4 * W := by rw [← Nat.succ_mul]; exact Nat.mul_le_mul_right W (by omega)
    rw [hbyte _ (by omega), want_at W fs f i hi]
  exact { len := h1, n_eq := hn, m_eq := hms, hw1 := hh1, hw8 := by omega, m_le := hm, w0 := by rw [hbyte 0 (by omega), want, if_pos rfl], w1 := hW1, w8 := hW8, room := hroom, S := by rw [hnum 2 (by omega), hfs]; rfl, E := by rw [hnum 3 (by omega), ← hE, hfs]; rfl, at' := hat }

theorem zero_cells (n : Nat) : (madeCells #[.int .u64 0] n).toList = wc (List.replicate n 0) := by
  rw [toList_madeCells_one, wc, List.map_replicate]; rfl

theorem fits_W (gf W hw : Nat) (fs : List Nat) (w : World) (hl : fs.length = 4) (hWh : W = 1 ∧ hw = 1 ∨ W = 2 ∧ hw = 2 ∨ W = 4 ∧ hw = 3 ∨ W = 8 ∧ hw = 5) (h64 : ∀ j, fs.getD j 0 < 2 ^ 64)
    (hf : ∀ j, j < 4 → w.cell? ⟨gf, j, none⟩ = some (.int .u64 (fs.getD j 0 : Nat))) :
    Calls Try.prog 9 #[.int .i64 W, .slice (some ⟨gf, 0, none⟩) 4 4] w fun e w' => Said9 fs W e ∧ w = w' := by
  rcases hWh with ⟨rfl, _⟩ | ⟨rfl, _⟩ | ⟨rfl, _⟩ | ⟨rfl, _⟩
  · exact fits_lim gf 4 1 256 fs w hl (by omega) (by omega) hf
  · exact fits_lim gf 4 2 65536 fs w hl (by omega) (by omega) hf
  · exact fits_lim gf 4 4 4294967296 fs w hl (by omega) (by omega) hf
  · exact fits_eight gf 4 fs w h64

set_option maxHeartbeats 2000000 in
set_option maxRecDepth 100000 in
theorem rec_walk (a0 : Option Addr) (m cap0 : Nat) (neg : Bool) (a2 : Option Addr) (zl cap2 : Nat) (zneg : Bool) (W hw Ev : Nat) (ms zs : List Nat) (w : World)
    (hms : ms.length = m) (hzs : zs.length = zl) (hm : m ≤ 65536) (hzl : zl ≤ 65536)
    (hr0 : 0 < m → ∃ b off, a0 = some ⟨b, off, none⟩ ∧ b < w.heap.size ∧ ∀ j, j < m → w.cell? ⟨b, off + j, none⟩ = some (.int .u64 (ms.getD j 0 : Nat)))
    (hr2 : 0 < zl → ∃ b off, a2 = some ⟨b, off, none⟩ ∧ b < w.heap.size ∧ ∀ j, j < zl → w.cell? ⟨b, off + j, none⟩ = some (.int .u64 (zs.getD j 0 : Nat)))
    (hWh : W = 1 ∧ hw = 1 ∨ W = 2 ∧ hw = 2 ∨ W = 4 ∧ hw = 3 ∨ W = 8 ∧ hw = 5) (hEv : Ev = 2 * (hw + m) + if neg then 1 else 0) :
    Calls Try.prog 3 #[.slice a0 m cap0, .bool neg, .slice a2 zl cap2, .bool zneg, .int .u8 W] w fun e w' => e = .returned (.bool true) ∧ Below w.heap.size w w' := by
  obtain ⟨i51, hi51, hz510, hz511, hz512⟩ := info_parts info51
  obtain ⟨i29, hi29, hz290, hz291, hz292⟩ := info_parts info29
  have KZ := hid (zz7 a0 a2 m cap0 zl cap2 neg zneg W w)
  have KW := hid (widthYes (W : Int) w (by rcases hWh with ⟨rfl, _⟩ | ⟨rfl, _⟩ | ⟨rfl, _⟩ | ⟨rfl, _⟩ <;> simp))
  have hW1 : 1 ≤ W := by omega
  have hW8 : W ≤ 8 := by omega
  have hh1 : 1 ≤ hw := by omega
  have hh8 : hw ≤ 5 := by omega
  have hroom : 1 + 4 * W ≤ 8 * hw := by omega
  have hdiv : (1 + 4 * (W : Int) + 7) / 8 = (hw : Int) := by omega
  have HR0 := hid hr0
  have HR2 := hid hr2
  have HMS := hid hms
  have HZS := hid hzs
  have HWH := hid hWh
  obtain ⟨bb, hbb⟩ : ∃ bb, bb = neg := ⟨_, rfl⟩
  have HEV : Hid (Ev = 2 * (hw + m) + if bb then 1 else 0) := by rw [hbb]; exact hEv
  have HBB := hid hbb
  clear hr0 hr2 hms hzs hWh hbb
  cases neg
  case' false =>
    have hE : 2 * ((hw : Int) + (m : Int)) = (Ev : Int) := by rw [hEv]; simp
    clear hEv
    go_enter Try.func3, Try.ntmps3
    go_wp2_with (first
      | (go_at_call 7; refine KZ.out.mono ?_; rintro e w' ⟨⟨r, rfl⟩, rfl⟩; cases r)
      | (go_at_call 8; refine KW.out.mono ?_; rintro e w' ⟨rfl, rfl⟩))
  case' true =>
    have hE : 2 * ((hw : Int) + (m : Int)) + 1 = (Ev : Int) := by rw [hEv]; simp
    clear hEv
    go_enter Try.func3, Try.ntmps3
    go_wp2_with (first
      | (go_at_call 7; refine KZ.out.mono ?_; rintro e w' ⟨⟨r, rfl⟩, rfl⟩; cases r)
      | (go_at_call 8; refine KW.out.mono ?_; rintro e w' ⟨rfl, rfl⟩))
  all_goals first
    | (go_ret; exact ⟨rfl, Below.refl _ _⟩)
    | skip
  all_goals
    simp only [hdiv]
    clear hE hdiv KZ KW
    obtain ⟨fs, hfs⟩ : ∃ fs, fs = [1, 0, 2 * hw, Ev] := ⟨_, rfl⟩
    have hEb : Ev ≤ 131100 := by rw [HEV.out]; split <;> omega
    have hf64 : ∀ j, fs.getD j 0 < 2 ^ 64 := by
      intro j
      rw [hfs]
      match j with
      | 0 => simp
      | 1 => simp
      | 2 => simp; omega
      | 3 => simp; omega
      | j + 4 => simp
    obtain ⟨w1, hw1⟩ : ∃ w1, w1 = w.alloc (.cells #[.int .u64 1, .int .u64 0, .int .u64 (2 * (hw : Int)), .int .u64 (Ev : Int)] 25) := ⟨_, rfl⟩
    have B1 : Below w.heap.size w w1 := by rw [hw1]; exact (Below.refl _ _).alloc (Nat.le_refl _) _
    have s1 : w1.heap.size = w.heap.size + 1 := by rw [hw1]; simp
    have hcf : ∀ j, j < 4 → w1.cell? ⟨w.heap.size, j, none⟩ = some (.int .u64 (fs.getD j 0 : Nat)) := by
      intro j hj
      rw [hw1, hfs]
      match j, hj with
      | 0, _ => simp
      | 1, _ => simp
      | 2, _ => simp
      | 3, _ => simp
    have K9 := hid (fits_W w.heap.size W hw fs w1 (by rw [hfs]; rfl) HWH.out hf64 hcf)
    rw [← hw1]
    clear hw1
    have HFS := hid hfs
    have HCF := hid hcf
    have HF64 := hid hf64
    have hs1 : w.heap.size < w1.heap.size := by omega
    clear hfs hcf hf64 s1
    obtain ⟨n, hn⟩ : ∃ n, n = hw + m := ⟨_, rfl⟩
    have HN := hid hn
    have hnb : n ≤ 65541 := by omega
    have hn1 : 1 ≤ n := by omega
    have HNI : Hid ((hw : Int) + (m : Int) = (n : Int)) := by rw [hn]; simp [Hid]
    clear hn
    refine K9.out.mono ?_
    rintro e w' ⟨rfl | ⟨rfl, hfit⟩, rfl⟩
    · go_wp2_with fail
      go_ret
      exact ⟨rfl, B1⟩
    have HFIT := hid hfit
    clear hfit K9
    go_wp2_with (at_make; refine wpList_make_full _ rfl _ _ 27 rfl w.heap.size 29 i29 (.int .u64 0) 1 Try.underlying27 hi29 hz290 hz291 _ _ _ _ n rfl rfl HNI.out HNI.out (by rw [hz292]; omega) (by unfold maxLen; omega) B1.size ?_)
    intro w2 own2 gr2
    have B2 : Below w.heap.size w w2 := B1.grown gr2 B1.size (fun _ h => by cases h)
    obtain ⟨g, hg⟩ : ∃ g, g = w1.heap.size := ⟨_, rfl⟩
    rw [← hg] at own2 hs1 ⊢
    simp only [zero_cells] at own2
    have hcf2 : ∀ j, j < 4 → w2.cell? ⟨w.heap.size, j, none⟩ = some (.int .u64 (fs.getD j 0 : Nat)) := fun j hj => gr2.cell (HCF.out j hj) (by simp)
    have s2 : g < w2.heap.size := (own2.lt _ rfl).2
    have K10 := hid (layHead_any w.heap.size g w.heap.size n W 4 fs _ w2 hW1 hW8 (by rw [HFS.out]; rfl) (fun x hx => by
      obtain ⟨j, hj⟩ := List.getElem?_of_mem hx
      have := HF64.out j
      simpa [List.getD, hj] using this) (by omega) own2 (laid_zero W fs n) (by omega) (by have := HN.out; omega) hcf2 (by omega) (by omega))
    clear own2 gr2 hcf2 HCF hg
    go_wp2_with (go_at_call 10; refine K10.out.mono ?_; rintro e w3 ⟨rfl, ws', own3, hlaid, gr3⟩)
    have B3 : Below w.heap.size w w3 := B2.grown gr3 B2.size (fun t h => by simp at h; omega)
    have HLAID := hid hlaid
    clear K10 gr3 hlaid B2 B1
    have HW' := hid hroom
    clear hroom
    go_loopw [17] (fun i wr => ∃ (k : Nat) (ws1 : List Nat), k ≤ m ∧ i = .int .i64 k ∧ wr.ownsRow w.heap.size 29 1 (.slice (some ⟨g, 0, none⟩) n n) n (wc ws1) ∧
        Hid (ws1.length = n ∧ (∀ j, j < hw → ws1[j]? = ws'[j]?) ∧ ∀ j, j < k → ws1[hw + j]? = some (ms.getD j 0)) ∧ Below w.heap.size w wr)
      (fun i _ => m - (intOf i).toNat)
    case atStart => exact ⟨0, ws', by omega, rfl, own3, hid ⟨HLAID.out.1, fun _ _ => rfl, fun j hj => by omega⟩, B3⟩
    case round =>
      obtain ⟨k, ws1, hk, rfl, oR, HY, BW⟩ := hrel
      clear own3 B3
      by_cases hlt : k < m
      · obtain ⟨b, off, rfl, hb, hc⟩ := HR0.out (by omega)
        have c0 := (BW.cell (p := ⟨b, off + k, none⟩) hb).trans (hc k hlt)
        have hkn : hw + k < n := by have := HN.out; omega
        obtain ⟨u, hu⟩ : ∃ u, ws1[hw + k]? = some u := ⟨_, List.getElem?_eq_getElem (by rw [HY.out.1]; exact hkn)⟩
        have c1 : wr.cell? ⟨g, hw + k, none⟩ = some (.int .u64 (u : Int)) := by rw [oR.cellAt (hw + k) (by omega), wc_at, hu]; rfl
        have f1 := oR.frozenAt (hw + k)
        obtain ⟨x, hx⟩ : ∃ x, x = ms.getD k 0 := ⟨_, rfl⟩
        have HS : Hid ((ws1.set (hw + k) x).length = n ∧ (∀ j, j < hw → (ws1.set (hw + k) x)[j]? = ws'[j]?) ∧ ∀ j, j < k + 1 → (ws1.set (hw + k) x)[hw + j]? = some (ms.getD j 0)) := by
          refine ⟨by rw [List.length_set]; exact HY.out.1, fun j hj => ?_, fun j hj => ?_⟩
          · rw [List.getElem?_set_ne (by omega)]; exact HY.out.2.1 j hj
          · by_cases e : j = k
            · subst e; rw [List.getElem?_set_self (by rw [HY.out.1]; exact hkn), hx]
            · rw [List.getElem?_set_ne (by omega)]; exact HY.out.2.2 j (by omega)
        have HO : Hid ((wr.setCell ⟨g, hw + k, none⟩ (.int .u64 (x : Int))).ownsRow w.heap.size 29 1 (.slice (some ⟨g, 0, none⟩) n n) n (wc (ws1.set (hw + k) x))) := by
          rw [← wc_set]; exact (oR.stored (hw + k) _).1
        rw [← hx] at c0
        clear hu hx HY hc
        go_wp2
        go_roundw
        case rel => exact ⟨k + 1, _, by omega, by go_num, HO.out, HS, BW.setCell (show w.heap.size ≤ g by omega) _⟩
        case measure => simp [intOf]; omega
      · obtain rfl : k = m := by omega
        have HREC : Hid (Rec ws1 ms W hw n k bb) := rec_of W hw k n Ev bb fs ws' ws1 ms HFS.out HEV.out HLAID.out HN.out HY.out.1 HY.out.2.1 HY.out.2.2 HFIT.out HMS.out hh1 hh8 (by omega) hW1 hW8 HW'.out
        have HYL := hid HY.out.1
        clear HY HFS HEV HLAID HFIT HF64
        obtain ⟨wa, rfl⟩ : ∃ wa : World, wa = wr := ⟨_, rfl⟩
        go_wp2_with (at_make; refine wpList_make_full _ rfl _ _ 27 rfl w.heap.size 29 i29 (.int .u64 0) 1 Try.underlying27 hi29 hz290 hz291 _ _ _ _ zl rfl rfl (by rfl) (by rfl) (by rw [hz292]; omega) (by unfold maxLen; omega) BW.size ?_)
        intro w4 own4 gr4
        have B4 : Below w.heap.size w w4 := BW.grown gr4 BW.size (fun _ h => by cases h)
        have oR4 := oR.kept gr4 (.inr (by simp [Value.ownBlock]))
        have s4 : g < wa.heap.size := (oR.lt _ rfl).2
        obtain ⟨g1, hg1⟩ : ∃ g1, g1 = wa.heap.size := ⟨_, rfl⟩
        rw [← hg1] at own4 s4 ⊢
        clear hg1 gr4 oR BW
        go_wp2
        go_loopw [19] (fun i wr => ∃ (j : Nat) (ys : List Value), j ≤ zl ∧ i = .int .i64 j ∧ wr.ownsRow w.heap.size 29 1 (.slice (some ⟨g1, 0, none⟩) zl zl) zl ys ∧ Hid (∀ t, t < j → ys[t]? = (wc zs)[t]?) ∧
            wr.ownsRow w.heap.size 29 1 (.slice (some ⟨g, 0, none⟩) n n) n (wc ws1) ∧ Below w.heap.size w wr)
          (fun i _ => zl - (intOf i).toNat)
        case atStart => exact ⟨0, _, by omega, rfl, own4, hid (fun j hj => by omega), oR4, B4⟩
        case round =>
          obtain ⟨j, ys, hj, rfl, oZ, HY, oR, BW⟩ := hrel
          clear own4 oR4 B4
          by_cases hlt2 : j < zl
          · obtain ⟨b, off, rfl, hb, hc⟩ := HR2.out (by omega)
            have c0 := (BW.cell (p := ⟨b, off + j, none⟩) hb).trans (hc j hlt2)
            have hx : zs[j]? = some (zs.getD j 0) := by
              have hl : j < zs.length := by rw [HZS.out]; omega
              simp [List.getD, List.getElem?_eq_getElem hl]
            have hyl : ys.length = zl := by have := oZ.1; omega
            obtain ⟨u, hu⟩ : ∃ u, ys[j]? = some u := ⟨_, List.getElem?_eq_getElem (by omega)⟩
            have c1 := (oZ.cellAt j (by omega)).trans hu
            have f1 := oZ.frozenAt j
            have HS := hid (copy_step (by omega) hx HY.out)
            have HYL2 := hid hyl
            obtain ⟨x, hxx⟩ : ∃ x, x = zs.getD j 0 := ⟨_, rfl⟩
            rw [← hxx] at c0 HS
            clear hu hx HY hyl hxx hc
            go_wp2
            go_roundw
            case rel => exact ⟨j + 1, _, by omega, by go_num, (oZ.stored j _).1, HS, oR.kept (oZ.stored j _).2 (.inr (by simp [Value.ownBlock]; omega)), BW.setCell (show w.heap.size ≤ g1 by omega) _⟩
            case measure => simp [intOf]; omega
          · obtain rfl : j = zl := by omega
            have hys : ys = wc zs := copied (by have := oZ.1; omega) HZS.out HY.out
            rw [hys] at oZ
            clear hys HY
            have hT := trimLen_le (fun j => ms.getD j 0) k
            obtain ⟨T, hTe⟩ : ∃ T, trimLen (fun j => ms.getD j 0) k = T := ⟨_, rfl⟩
            obtain ⟨R, hRe⟩ : ∃ R, (bb && decide (0 < T)) = R := ⟨_, rfl⟩
            have K11 := hid (into_any g g1 n j W hw k T bb zneg R ws1 zs ms wr HREC.out (lie_of_own oR HYL.out) (lie_of_own oZ HZS.out) (by omega) (oR.lt _ rfl).2 (oZ.lt _ rfl).2 hTe hRe)
            rw [hTe] at hT
            have HTE := hid hTe
            have HRE := hid hRe
            clear hTe hRe oZ oR
            go_wp2_with (go_at_call 11; refine K11.out.mono ?_; rintro e w6 ⟨g2, rfl, hgot, B6'⟩)
            have B6 : Below w.heap.size w w6 := BW.trans (B6'.mono BW.size)
            have HGOT := hid hgot
            clear K11 hgot B6' BW
            go_loop [23] (fun i => ∃ t : Nat, t ≤ k ∧ i = .int .i64 t ∧ Hid (trimLen (fun j => ms.getD j 0) t = T)) (fun i => (intOf i).toNat)
            case atStart => exact ⟨k, Nat.le_refl _, rfl, HTE⟩
            case round =>
              obtain ⟨t, htk, rfl, HTT⟩ := hrel
              by_cases h0 : t = 0
              · subst h0
                obtain rfl : T = 0 := HTT.out.symm
                obtain rfl : R = false := by rw [← HRE.out]; simp
                clear HTT HRE HTE
                go_wp2
                refine wp_loop_rounds 1 ?_
                rw [rounds_succ]
                go_wp2
                go_ret
                exact ⟨rfl, B6⟩
              · obtain ⟨q, rfl⟩ : ∃ q, t = q + 1 := ⟨t - 1, by omega⟩
                obtain ⟨b, off, rfl, hb, hc⟩ := HR0.out (by omega)
                have cell := (B6.cell (p := ⟨b, off + q, none⟩) hb).trans (hc q (by omega))
                by_cases hz : ms.getD q 0 = 0
                · rw [hz] at cell
                  have HT2 : Hid (trimLen (fun j => ms.getD j 0) q = T) := by
                    have := HTT.out; rw [trimLen, if_pos hz] at this; exact this
                  clear HTT hz hc
                  go_wp2
                  go_round
                  case rel => exact ⟨q, by omega, rfl, HT2⟩
                  case measure => simp [intOf]
                · obtain rfl : T = q + 1 := by
                    have := HTT.out; rw [trimLen, if_neg hz] at this; exact this.symm
                  obtain ⟨x, hx⟩ : ∃ x, x = ms.getD q 0 := ⟨_, rfl⟩
                  rw [← hx] at cell hz
                  have hz' : ((x : Int) == 0) = false := by simp; omega
                  obtain rfl : R = bb := by rw [← HRE.out]; simp
                  have HC := hid hc
                  clear HTT hx hc HTE HRE
                  go_wp2
                  go_loopw [24] (fun i wq => ∃ (p d : Nat), p ≤ q + 1 ∧ i = .int .i64 p ∧ wq = w6.drewN d) (fun i _ => q + 1 - (intOf i).toNat)
                  case atStart => exact ⟨0, 0, by omega, rfl, rfl⟩
                  case round =>
                    obtain ⟨p, d, hp, rfl, rfl⟩ := hrel
                    by_cases hpq : p < q + 1
                    · have cg := HGOT.out p hpq
                      have ca := (B6.cell (p := ⟨b, off + p, none⟩) hb).trans (HC.out p (by omega))
                      obtain ⟨y, hy⟩ : ∃ y, y = ms.getD p 0 := ⟨_, rfl⟩
                      rw [← hy] at cg ca
                      clear hy
                      go_wp2
                      go_quiet (fail)
                      go_wp2
                      go_roundw
                      case rel => exact ⟨p + 1, _, by omega, by go_num, rfl⟩
                      case measure => simp [intOf]; omega
                    · obtain rfl : R = _ := HBB.out
                      go_wp2
                      go_ret
                      exact ⟨rfl, below_drewN B6 d⟩
end Go.Proofs.Qxb6612640a
