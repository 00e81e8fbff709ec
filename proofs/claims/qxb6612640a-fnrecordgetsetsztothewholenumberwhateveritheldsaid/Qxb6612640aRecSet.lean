/- setWords (40). -/
import Derived.Test.Qxb6612640aRecBig
namespace Go.Proofs.Qxb6612640a
open Go.RowKit
set_option linter.unusedVariables false

theorem info51 : (Try.prog.info? 51).map (fun i => (i.zero, i.size, i.bytes)) = some (some (.int .u64 0), 1, 8) := by kernel_rfl

theorem wc_oneCell (ws : List Nat) : ∀ u ∈ wc ws, u.oneCell' = true := by
  intro u hu
  obtain ⟨_, _, rfl⟩ := List.mem_map.1 hu
  rfl

theorem own_shape {w : World} {base : Nat} {e : TypeId} {v : Value} {n : Nat} {xs : List Value} (h : w.ownsRow base e 1 v n xs) (hv : ¬ v = .slice none 0 0) :
    ∃ g cap, v = .slice (some ⟨g, 0, none⟩) n cap ∧ base ≤ g ∧ (∃ cur, w.heap[g]? = some (.cells cur e (0, 0))) ∧ n ≤ cap ∧ cap ≤ maxLen := by
  rcases h.2 with ⟨h', _⟩ | ⟨g, cap, cur, h', hb, hg, hnc, hcm, _⟩
  · exact absurd h' hv
  · exact ⟨g, cap, h', hb, ⟨cur, hg⟩, hnc, hcm⟩

theorem getD_of {ms : List Nat} {m j : Nat} (h : ms.length = m) (hj : j < m) : (wc ms)[j]? = some (.int .u64 (ms.getD j 0 : Nat)) := by
  rw [wc_at, List.getElem?_eq_getElem (by omega)]
  simp [List.getD, List.getElem?_eq_getElem (show j < ms.length by omega)]

set_option maxHeartbeats 1000000 in
set_option maxRecDepth 100000 in
theorem setWords_any (B gz base g l c m c2 : Nat) (ad : Addr) (s b : Bool) (ms : List Nat) (w : World) (hz : ZAt w gz s (.slice (some ⟨g, 0, none⟩) l c))
    (hown : w.ownsRow base 51 1 (.slice (some ⟨g, 0, none⟩) 0 c) 0 []) (hlc : l ≤ c) (hms : ms.length = m) (hcells : ∀ j u, (wc ms)[j]? = some u → w.cell? (ad.add j) = some u) (hm : m ≤ 65536)
    (hB1 : B ≤ base) (hB2 : B ≤ gz) (hbase : base ≤ w.heap.size) :
    Calls Try.prog 40 #[.pointer (some ⟨gz, 0, none⟩), .slice (some ad) m c2, .bool b] w fun e w' => e = .returned (.pointer (some ⟨gz, 0, none⟩)) ∧
      ∃ g' c', ZAt w' gz (b && decide (0 < trimLen (fun j => ms.getD j 0) m)) (.slice (some ⟨g', 0, none⟩) (trimLen (fun j => ms.getD j 0) m) c') ∧
        (∀ j, j < m → w'.cell? ⟨g', j, none⟩ = some (.int .u64 (ms.getD j 0 : Nat))) ∧ Below B w w' := by
  obtain ⟨i0, hi, hz0, hz1, hz2⟩ := info_parts info51
  have KB := hid (bits_any gz _ l c s w hz)
  have hcm : c ≤ 9223372036854775807 := by
    rcases hown.2 with ⟨h, _⟩ | ⟨g', cap', cur, h, _, _, _, hcm, _⟩
    · simp at h
    · simp only [Value.slice.injEq] at h
      unfold maxLen at hcm
      omega
  have hwl : (wc ms).length = m * 1 := by rw [wc_length, hms, Nat.mul_one]
  have HM := hid hms
  have HZ := hid hz
  have hcell' := hid hcells
  have HL := hid hwl
  clear hcells hms hz hwl
  go_enter Try.func40, Try.ntmps40
  go_wp2_with (first
    | (go_at_call 26; refine KB.out.mono ?_; rintro e w' ⟨rfl, rfl⟩)
    | (at_builtin; refine wpList_append_own _ rfl _ _ 49 rfl base 51 i0 (.int .u64 0) 1 8 Try.underlying49 hi hz0 hz1 hz2 rfl (by decide) _ _ _ rfl hown ad m c2 (wc ms) rfl HL.out hcell'.out (wc_oneCell ms) ?c3 ?c4 hbase ?_))
  case c3 => unfold maxLen; omega
  case c4 => omega
  intro v' w1 own1 gr1 hnil
  have hv : ¬ v' = .slice none 0 0 := by intro h; simp [h] at hnil
  have hex := own_shape own1 hv
  obtain ⟨g', c', hv', hbg, hcur, hmc, hcm'⟩ := hex
  rw [hv'] at own1 ⊢
  have hgne : ¬ g' = gz := by
    intro e
    obtain ⟨cur, hcur⟩ := hcur
    have hgz : ¬ gz = g := by
      intro e2
      have hz := HZ.out
      unfold ZAt at hz
      rcases hown.2 with ⟨h, _⟩ | ⟨g2, cap2, cur2, h, _, hg2, _⟩
      · simp at h
      · simp only [Value.slice.injEq, Option.some.injEq, Addr.mk.injEq, and_true, true_and] at h
        rw [e2, h.1, hg2] at hz
        simp at hz
    have := HZ.out.kept gr1 (by simpa [Value.ownBlock] using hgz)
    unfold ZAt at this
    rw [← e, hcur] at this
    simp at this
  have hgz : ¬ gz = g := by
    intro e2
    have hz := HZ.out
    unfold ZAt at hz
    rcases hown.2 with ⟨h, _⟩ | ⟨g2, cap2, cur2, h, _, hg2, _⟩
    · simp at h
    · simp only [Value.slice.injEq, Option.some.injEq, Addr.mk.injEq, and_true, true_and] at h
      rw [e2, h.1, hg2] at hz
      simp at hz
  have hz1' := HZ.out.kept gr1 (by simpa [Value.ownBlock] using hgz)
  have hc1 : ∀ j, j < m → w1.cell? ⟨g', j, none⟩ = some (.int .u64 (ms.getD j 0 : Nat)) := fun j hj => (own1.cellAt j (by omega)).trans (getD_of HM.out hj)
  have hgB : B ≤ g := by have := (hown.lt g rfl).1; omega
  have B1 : Below B w w1 := (Below.refl _ _).grown gr1 (by omega) (fun t h => by simp [Value.ownBlock] at h; omega)
  unfold maxLen at hcm'
  have KS := hid (setBits_any gz g' m c' s _ (fun j => ms.getD j 0) w1 hz1' hmc hcm' hc1)
  have HC1 := hid hc1
  clear hv hv' own1 gr1 hnil hcur hz1' hc1 KB hown HL hcell'
  go_wp2_with fail
  refine KS.out.mono ?_
  rintro e w2 ⟨rfl, z2, gr2⟩
  have HC2 : Hid (∀ j, j < m → w2.cell? ⟨g', j, none⟩ = some (.int .u64 (ms.getD j 0 : Nat))) := fun j hj => gr2.cell (HC1.out j hj) (by simpa using hgne)
  have B2 : Below B w w2 := B1.grown gr2 (by have := B1.size; omega) (fun t h => by simp at h; omega)
  have hT := trimLen_le (fun j => ms.getD j 0) m
  obtain ⟨T, hTe⟩ : ∃ T, T = trimLen (fun j => ms.getD j 0) m := ⟨_, rfl⟩
  rw [← hTe] at z2 hT
  have HT := hid hTe
  clear KS hTe HC1 B1 gr2
  cases b
  · go_wp2_with fail
    go_ret
    exact ⟨rfl, g', c', by rw [← HT.out]; exact z2, HC2.out, B2⟩
  · have KN := hid (neg_any gz T c' _ false w2 z2 (by omega))
    go_wp2_with fail
    refine KN.out.mono ?_
    rintro e w3 ⟨rfl, z3, gr3⟩
    have HC3 : Hid (∀ j, j < m → w3.cell? ⟨g', j, none⟩ = some (.int .u64 (ms.getD j 0 : Nat))) := fun j hj => gr3.cell (HC2.out j hj) (by simpa using hgne)
    have B3 : Below B w w3 := B2.grown gr3 (by have := B2.size; omega) (fun t h => by simp at h; omega)
    clear KN gr3 HC2 B2 z2
    go_wp2_with fail
    go_ret
    refine ⟨rfl, g', c', ?_, HC3.out, B3⟩
    rw [← HT.out]
    simpa using z3
end Go.Proofs.Qxb6612640a
