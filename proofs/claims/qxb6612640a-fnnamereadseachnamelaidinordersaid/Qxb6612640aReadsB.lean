/- FnNameReadsEachNameLaidInOrder (5): the walk. -/
import Derived.Test.Qxb6612640aReadsA
import Derived.Deep.RegionWith
namespace Go.Proofs.Qxb6612640a
open Go.RowKit
set_option linter.unusedVariables false

theorem info3 : (Try.prog.info? 3).map (fun i => (i.zero, i.size, i.bytes)) = some (some (.int .i64 0), 1, 8) := by kernel_rfl

set_option maxHeartbeats 2000000 in
set_option maxRecDepth 100000 in
theorem reads_pos (b off len cap : Nat) (ss : List ByteArray) (w : World) (hl : len ≤ ss.length) (hm : len ≤ 9223372036854775807) (hb : b < w.heap.size)
    (hc : ∀ k, k < len → w.cell? ⟨b, off + k, none⟩ = some (.string (ss.getD k ByteArray.empty))) :
    Calls Try.prog 5 #[.slice (some ⟨b, off, none⟩) len cap] w fun e w' => e = .returned (.bool true) ∧ Below w.heap.size w w' := by
  obtain ⟨i5, hi5, hz50, hz51, hz52⟩ := info_parts info5
  obtain ⟨i3, hi3, hz30, hz31, hz32⟩ := info_parts info3
  have HZ := hid (zz18 b off len cap ss w hl hm hc)
  have HC := hid hc
  clear hc
  by_cases h16 : (65536 : Int) < len
  · go_enter Try.func5, Try.ntmps5
    go_wp2_with (go_at_call 18; refine HZ.out.mono ?_; rintro e w' ⟨rfl | ⟨rfl, hsz⟩, rfl⟩)
    all_goals
      go_ret
      exact ⟨rfl, Below.refl _ _⟩
  · go_enter Try.func5, Try.ntmps5
    go_wp2_with (go_at_call 18; refine HZ.out.mono ?_; rintro e w' ⟨rfl | ⟨rfl, hsz⟩, rfl⟩)
    · go_ret
      exact ⟨rfl, Below.refl _ _⟩
    have HSZ := hid hsz
    clear HZ hsz
    go_loop [3, 4] (fun t i => ∃ (k : Nat), k ≤ len ∧ tot (ss.take k) ≤ 1048576 ∧ i = .int .i64 k ∧ t = .int .i64 (tot (ss.take k))) (fun _ i => len - (intOf i).toNat)
    case atStart => exact ⟨0, by omega, by simp [tot], rfl, by simp [tot]⟩
    case round =>
      obtain ⟨k, hk, ht, rfl, rfl⟩ := hrel
      by_cases hlt : k < len
      · have g := HC.out k hlt
        have hts := tot_succ ss k (by omega)
        obtain ⟨s, hs⟩ : ∃ s, s = ss.getD k ByteArray.empty := ⟨_, rfl⟩
        have hsz := HSZ.out k hlt
        rw [← hs] at g hts hsz
        have HT := hid hts
        clear hs hts
        go_wp2
        · go_ret
          exact ⟨rfl, Below.refl _ _⟩
        · go_round
          case rel => exact ⟨k + 1, by omega, by rw [HT.out]; omega, by go_num, by rw [HT.out]; go_num⟩
          case measure => simp [intOf]; omega
      · obtain rfl : k = len := by omega
        obtain ⟨T, hT⟩ : ∃ T, T = tot (ss.take k) := ⟨_, rfl⟩
        rw [← hT] at ht ⊢
        have HT := hid hT
        clear hT
        go_wp2_with (first
          | (at_make; refine wpList_make_own _ rfl _ _ 43 rfl w.heap.size 5 i5 (.int .u8 0) 1 Try.underlying43 hi5 hz50 hz51 _ _ _ (T + 10 * k) rfl rfl ?a1 ?a2 ?a3 ?a4 ?_))
        case a2 => omega
        case a3 => unfold maxLen; omega
        intro w1 own1 gr1
        have B1 : Below w.heap.size w w1 := (Below.refl _ _).grown gr1 (Nat.le_refl _) (fun _ h => by cases h)
        have s1 : w.heap.size < w1.heap.size := (own1.lt _ rfl).2
        go_wp2_with (first
          | (at_make; refine wpList_make_full _ rfl _ _ 44 rfl w.heap.size 3 i3 (.int .i64 0) 1 Try.underlying44 hi3 hz30 hz31 _ _ _ _ k rfl rfl ?b1 ?b2 ?b3 ?b4 ?b5 ?_))
        case b1 => rfl
        case b2 => rfl
        case b3 => rw [hz32]; omega
        case b4 => unfold maxLen; omega
        case b5 => omega
        intro w2 own2 gr2
        have B2 : Below w.heap.size w w2 := B1.grown gr2 (by omega) (fun _ h => by cases h)
        have s2 : w1.heap.size < w2.heap.size := (own2.lt _ rfl).2
        have own1' := own1.kept gr2 (.inr (by simp [Value.ownBlock]))
        clear own1 gr1 gr2
        go_wp2_with (first
          | (at_make; refine wpList_make_full _ rfl _ _ 44 rfl w.heap.size 3 i3 (.int .i64 0) 1 Try.underlying44 hi3 hz30 hz31 _ _ _ _ k rfl rfl ?d1 ?d2 ?d3 ?d4 ?d5 ?_))
        case d1 => rfl
        case d2 => rfl
        case d3 => rw [hz32]; omega
        case d4 => unfold maxLen; omega
        case d5 => omega
        intro w3 own3 gr3
        have B3 : Below w.heap.size w w3 := B2.grown gr3 (by omega) (fun _ h => by cases h)
        have s3 : w2.heap.size < w3.heap.size := (own3.lt _ rfl).2
        have own1 := own1'.kept gr3 (.inr (by simp [Value.ownBlock]))
        have own2' := own2.kept gr3 (.inr (by simp [Value.ownBlock]))
        clear own1' own2 gr3 hz30 hz31 hz32 hi3
        obtain ⟨gO, hgO⟩ : ∃ gO, gO = w1.heap.size := ⟨_, rfl⟩
        obtain ⟨gE, hgE⟩ : ∃ gE, gE = w2.heap.size := ⟨_, rfl⟩
        rw [← hgO] at own2' s1 s2 ⊢
        rw [← hgE] at own3 s2 s3 ⊢
        clear hgO hgE B1 B2
        go_wp2
        go_loopw [5, 8] (fun v i wr => ∃ (j : Nat) (lo le : List Value), j ≤ k ∧ i = .int .i64 j ∧ v = .slice (some ⟨w.heap.size, 0, none⟩) (enc (ss.take j)).length (T + 10 * k) ∧
            wr.ownsRow w.heap.size 5 1 (.slice (some ⟨w.heap.size, 0, none⟩) (enc (ss.take j)).length (T + 10 * k)) (enc (ss.take j)).length (Lib.byteCells (enc (ss.take j))) ∧
            wr.ownsRow w.heap.size 3 1 (.slice (some ⟨gO, 0, none⟩) k k) k lo ∧ wr.ownsRow w.heap.size 3 1 (.slice (some ⟨gE, 0, none⟩) k k) k le ∧
            Hid (∀ t, t < j → lo[t]? = some (.int .i64 (enc (ss.take t)).length)) ∧ Hid (∀ t, t < j → le[t]? = some (.int .i64 (enc (ss.take (t + 1))).length)) ∧ Below w.heap.size w wr)
          (fun _ i _ => k - (intOf i).toNat)
        case atStart => exact ⟨0, _, _, by omega, rfl, rfl, own1, own2', own3, hid (fun t ht => by omega), hid (fun t ht => by omega), B3⟩
        case round =>
          obtain ⟨j, lo, le, hj, rfl, rfl, oN, oO, oE, HO, HE, BW⟩ := hrel
          clear own1 own2' own3 B3
          by_cases hjk : j < k
          · have g := (BW.cell (p := ⟨b, off + j, none⟩) hb).trans (HC.out j hjk)
            have hsz := HSZ.out j hjk
            have hsucc := hid (enc_succ ss j (by omega))
            have hlen := enc_len ss k hl (by rw [← HT.out]; omega) (j + 1) (by omega)
            have htm := tot_mono ss (j + 1) k (by omega)
            rw [← HT.out] at htm
            obtain ⟨s, hs⟩ : ∃ s, s = ss.getD j ByteArray.empty := ⟨_, rfl⟩
            rw [← hs] at g hsz hsucc
            have hroom : (enc (ss.take j)).length + (Lib.uvarint s.size).length + s.size ≤ T + 10 * k := by
              rw [hsucc.out, List.length_append, List.length_append, bytes_len] at hlen
              omega
            clear hlen htm
            obtain ⟨X, hX⟩ : ∃ X, X = enc (ss.take j) := ⟨_, rfl⟩
            rw [← hX] at oN hroom hsucc ⊢
            have HX := hid hX
            have HS := hid hs
            clear hX hs
            obtain ⟨uo, huo⟩ : ∃ u, lo[j]? = some u := ⟨_, List.getElem?_eq_getElem (by have := oO.1; omega)⟩
            obtain ⟨ue, hue⟩ : ∃ u, le[j]? = some u := ⟨_, List.getElem?_eq_getElem (by have := oE.1; omega)⟩
            have c1 := (oO.cellAt j (by omega)).trans huo
            have f1 := oO.frozenAt j
            clear huo
            obtain ⟨oO1, gr1⟩ := oO.stored j (.int .i64 X.length)
            have oN1 := oN.kept gr1 (.inr (by simp [Value.ownBlock]; omega))
            have oE1 := oE.kept gr1 (.inr (by simp [Value.ownBlock]; omega))
            have BW1 := BW.setCell (p := ⟨gO, j, none⟩) (by show w.heap.size ≤ gO; omega) (.int .i64 X.length)
            clear oO oN oE gr1
            go_wp2_with fail
            refine (put_any w.heap.size w.heap.size X.length (T + 10 * k) s.size (by omega) _ _ oN1 (by omega)).mono ?_
            rintro e w4 ⟨rfl, oN2, gr2⟩
            have oO2 := oO1.kept gr2 (.inr (by simp [Value.ownBlock]; omega))
            have oE2 := oE1.kept gr2 (.inr (by simp [Value.ownBlock]; omega))
            have BW2 : Below w.heap.size w w4 := BW1.grown gr2 BW1.size (fun t h => by cases h; exact Nat.le_refl _)
            have g2 := (BW2.cell (p := ⟨b, off + j, none⟩) hb).trans (HC.out j hjk)
            rw [← HS.out] at g2
            clear oO1 oE1 BW1 BW gr2 oN1 c1 f1 g
            go_wp2_with (at_builtin; refine Lib.wpList_append_fits_string _ rfl _ _ 43 9 rfl w.heap.size 5 i5 Try.underlying43 Try.underlying9 hi5 hz51 _ _ _ _ rfl oN2 s rfl ?e1 ?e2 ?_)
            case e1 => omega
            case e2 => omega
            intro w5 oN3 gr3
            have oO3 := oO2.kept gr3 (.inr (by simp [Value.ownBlock]; omega))
            have oE3 := oE2.kept gr3 (.inr (by simp [Value.ownBlock]; omega))
            have BW3 : Below w.heap.size w w5 := BW2.grown gr3 BW2.size (fun t h => by cases h; exact Nat.le_refl _)
            have c2 := (oE3.cellAt j (by omega)).trans hue
            have f2 := oE3.frozenAt j
            clear gr3 oO2 oE2 BW2 oN2 g2 hue
            go_wp2
            go_roundw
            case rel =>
              have eX : enc (ss.take (j + 1)) = X ++ (Lib.uvarint s.size ++ s.data.toList) := hsucc.out
              have eL : (enc (ss.take (j + 1))).length = X.length + (Lib.uvarint s.size).length + s.size := by rw [eX, List.length_append, List.length_append, bytes_len, Nat.add_assoc]
              obtain ⟨oE4, gr4⟩ := oE3.stored j (.int .i64 ((X.length : Int) + (Lib.uvarint s.size).length + s.size))
              refine ⟨j + 1, lo.set j (.int .i64 X.length), le.set j (.int .i64 ((X.length : Int) + (Lib.uvarint s.size).length + s.size)), by omega, by go_num, by rw [eL], ?_, oO3.kept gr4 (.inr (by simp [Value.ownBlock]; omega)), oE4, hid ?_, hid ?_, BW3.setCell (by show w.heap.size ≤ gE; omega) _⟩
              · rw [eL, eX, Lib.byteCells_append, Lib.byteCells_append, ← strCells_eq]
                have := oN3.kept gr4 (.inr (by simp [Value.ownBlock]; omega))
                exact this
              · intro t ht
                by_cases e : t = j
                · subst e
                  rw [List.getElem?_set_self (by have := oO3.1; simp at this; omega), HX.out]
                · rw [List.getElem?_set_ne (by omega)]
                  exact HO.out t (by omega)
              · intro t ht
                by_cases e : t = j
                · subst e
                  rw [List.getElem?_set_self (by have := oE3.1; simp at this; omega), eL]
                  simp
                · rw [List.getElem?_set_ne (by omega)]
                  exact HE.out t (by omega)
            case measure => simp [intOf]; omega
          · obtain rfl : j = k := by omega
            obtain ⟨wo, rfl⟩ : ∃ wo : World, wo = wr := ⟨_, rfl⟩
            have sO : gO < wo.heap.size := (oO.lt _ rfl).2
            have sE : gE < wo.heap.size := (oE.lt _ rfl).2
            go_wp2
            go_loopw [9] (fun i wq => ∃ (t : Nat), t ≤ j ∧ i = .int .i64 t ∧ Below wo.heap.size wo wq) (fun i _ => j - (intOf i).toNat)
            case atStart => exact ⟨0, by omega, rfl, Below.refl _ _⟩
            case round =>
              obtain ⟨t, htj, rfl, BQ⟩ := hrel
              by_cases hlt : t < j
              · have g := (BQ.cell (p := ⟨b, off + t, none⟩) (show b < wo.heap.size by have := BW.size; omega)).trans ((BW.cell (p := ⟨b, off + t, none⟩) hb).trans (HC.out t hlt))
                have cO := (BQ.cell (p := ⟨gO, t, none⟩) sO).trans ((oO.cellAt t (by omega)).trans (HO.out t hlt))
                have cE := (BQ.cell (p := ⟨gE, t, none⟩) sE).trans ((oE.cellAt t (by omega)).trans (HE.out t hlt))
                have hsz := HSZ.out t hlt
                have hsucc := hid (enc_succ ss t (by omega))
                have hlen1 := enc_len ss j hl (by rw [← HT.out]; omega) (t + 1) (by omega)
                have hlenN := enc_len ss j hl (by rw [← HT.out]; omega) j (by omega)
                have htm := tot_mono ss (t + 1) j (by omega)
                have hatN := enc_at ss t j hl hlt
                have hat1 := enc_at ss t (t + 1) (by omega) (by omega)
                have htk := enc_take ss t j hl hlt
                obtain ⟨r, hr⟩ := enc_split ss t j hl hlt
                have hL1N := congrArg List.length hr
                rw [List.length_append] at hL1N
                rw [← HT.out] at htm hlenN
                have oN1 := owns_take oN (m := (enc (ss.take (t + 1))).length) (by omega)
                rw [htk] at oN1
                obtain ⟨s, hs⟩ : ∃ s, s = ss.getD t ByteArray.empty := ⟨_, rfl⟩
                rw [← hs] at g hsz hsucc hatN hat1
                have hL1 : (enc (ss.take (t + 1))).length = (enc (ss.take t)).length + (Lib.uvarint s.size).length + s.size := by
                  rw [hsucc.out, List.length_append, List.length_append, bytes_len, Nat.add_assoc]
                have K1 : Hid (∀ W, Below wo.heap.size wo W → Calls Try.prog 20 #[.slice (some ⟨w.heap.size, 0, none⟩) (enc (ss.take (t + 1))).length (T + 10 * j), .int .i64 (enc (ss.take t)).length] W fun e w' => e = .returned (.string s) ∧ Below wo.heap.size wo w') := by
                  intro W hW
                  refine (zzname_any w.heap.size w.heap.size _ _ _ s _ W (by omega) (oN1.kept (grownBy_below hW none) (.inr (by simp [Value.ownBlock]))) (by omega) (by omega) (by omega) hat1).mono ?_
                  rintro e w' ⟨rfl, h⟩
                  exact ⟨rfl, hW.trans (h.mono hW.size)⟩
                have K2 : Hid (∀ W, Below wo.heap.size wo W → Calls Try.prog 20 #[.slice (some ⟨w.heap.size, 0, none⟩) (enc (ss.take j)).length (T + 10 * j), .int .i64 (enc (ss.take t)).length] W fun e w' => e = .returned (.string s) ∧ Below wo.heap.size wo w') := by
                  intro W hW
                  refine (zzname_any w.heap.size w.heap.size _ _ _ s _ W (by omega) (oN.kept (grownBy_below hW none) (.inr (by simp [Value.ownBlock]))) (by omega) (by omega) (by omega) hatN).mono ?_
                  rintro e w' ⟨rfl, h⟩
                  exact ⟨rfl, hW.trans (h.mono hW.size)⟩
                have hb1 : (enc (ss.take (t + 1))).length ≤ T + 10 * j := by omega
                have hbN : (enc (ss.take j)).length ≤ T + 10 * j := by omega
                have HS := hid hs
                have HG := hid (show ∀ W, Below wo.heap.size wo W → W.cell? ⟨b, off + t, none⟩ = some (.string s) from fun W h => ((h.cell (p := ⟨b, off + t, none⟩) (show b < wo.heap.size by have := BW.size; omega)).trans ((BQ.cell (p := ⟨b, off + t, none⟩) (show b < wo.heap.size by have := BW.size; omega)).symm.trans g)))
                have HO' := hid (show ∀ W, Below wo.heap.size wo W → W.cell? ⟨gO, t, none⟩ = some (.int .i64 (enc (ss.take t)).length) from fun W h => (h.cell (p := ⟨gO, t, none⟩) sO).trans ((oO.cellAt t (by omega)).trans (HO.out t hlt)))
                clear hs hL1 hL1N hr hatN hat1 htk hlen1 hlenN htm hsucc oN1 hsz
                obtain ⟨L0, hL0⟩ : ∃ L0, L0 = (enc (ss.take t)).length := ⟨_, rfl⟩
                obtain ⟨L1, hL1⟩ : ∃ L1, L1 = (enc (ss.take (t + 1))).length := ⟨_, rfl⟩
                obtain ⟨LN, hLN⟩ : ∃ LN, LN = (enc (ss.take j)).length := ⟨_, rfl⟩
                rw [← hL0] at cO K1 K2 HO'
                rw [← hL1] at cE K1 hb1
                rw [← hLN] at K2 hbN ⊢
                clear hL0 hL1 hLN
                go_wp2
                go_region_with (go_at_call 20; refine (K1.out _ ?_).mono ?_; exact ⟨BQ.os, BQ.tape, BQ.output, BQ.size, BQ.block⟩; rintro e w6 ⟨rfl, B6⟩)
                all_goals
                  have cO6 := HO'.out w6 B6
                  have g6 := HG.out w6 B6
                  go_wp2_with (go_at_call 20; refine (K2.out _ B6).mono ?_; rintro e w7 ⟨rfl, B7⟩; have g7 := HG.out w7 B7)
                  go_roundw
                  case rel => exact ⟨t + 1, by omega, by go_num, B7⟩
                  case measure => simp [intOf]; omega
              · go_wp2
                go_ret
                exact ⟨rfl, BW.trans (BQ.mono BW.size)⟩
end Go.Proofs.Qxb6612640a
