/- FnNameIsACopyOfTheBytes (6): the walk. -/
import Derived.Test.Qxb6612640aCopyA
namespace Go.Proofs.Qxb6612640a
open Go.RowKit
set_option linter.unusedVariables false

/-- A list that begins as another goes on: what is asked of the row at a name's place. -/
theorem at_of (P U S R : List Value) (j : Nat) (u : Value) (h : (U ++ S)[j]? = some u) : (P ++ (U ++ (S ++ R)))[P.length + j]? = some u := by
  rw [List.getElem?_append_right (by omega), Nat.add_sub_cancel_left, ← List.append_assoc]
  rw [List.getElem?_append_left (List.getElem?_eq_some_iff.1 h).1]
  exact h

set_option maxHeartbeats 2000000 in
set_option maxRecDepth 100000 in
theorem copy_walk (a0 : Option Addr) (len0 cap0 : Nat) (z0 : List Int) (s : ByteArray) (a2 : Option Addr) (len2 cap2 : Nat) (z2 : List Int) (f : Int) (w : World) (w0 : IsRow .u8 w a0 len0 cap0 z0)
    (w2 : IsRow .u8 w a2 len2 cap2 z2) (hf0 : 0 ≤ f) (hf1 : f ≤ 255) :
    Calls Try.prog 6 #[.slice a0 len0 cap0, .string s, .slice a2 len2 cap2, .int .u8 f] w fun e w' => e = .returned (.bool true) ∧ Below w.heap.size w w' := by
  obtain ⟨i5, hi5, hz50, hz51, hz52⟩ := info_parts info5
  have HZ := hid (zz21 a0 a2 len0 cap0 len2 cap2 s f w)
  by_cases h1 : (65536 : Int) < len0
  · go_enter Try.func6, Try.ntmps6
    go_wp2_with (go_at_call 21; refine HZ.out.mono ?_; rintro e w' ⟨⟨r, rfl⟩, rfl⟩; cases r)
    all_goals
      go_ret
      exact ⟨rfl, Below.refl _ _⟩
  by_cases h2 : (65536 : Int) < s.size
  · go_enter Try.func6, Try.ntmps6
    go_wp2_with (go_at_call 21; refine HZ.out.mono ?_; rintro e w' ⟨⟨r, rfl⟩, rfl⟩; cases r)
    all_goals
      go_ret
      exact ⟨rfl, Below.refl _ _⟩
  by_cases h3 : (65536 : Int) < len2
  · go_enter Try.func6, Try.ntmps6
    go_wp2_with (go_at_call 21; refine HZ.out.mono ?_; rintro e w' ⟨⟨r, rfl⟩, rfl⟩; cases r)
    all_goals
      go_ret
      exact ⟨rfl, Below.refl _ _⟩
  obtain ⟨P, hP⟩ : ∃ P, P = (z0.take len0).map (Value.int .u8) := ⟨_, rfl⟩
  obtain ⟨R, hR⟩ : ∃ R, R = (z2.take len2).map (Value.int .u8) := ⟨_, rfl⟩
  have hPl : P.length = len0 := by rw [hP, List.length_map, isRow_len w0]
  have hRl : R.length = len2 := by rw [hR, List.length_map, isRow_len w2]
  have HP := hid hPl
  have HR := hid hRl
  have HPC := hid (show ∀ w', Below w.heap.size w w' → ∀ ad, a0 = some ad → ∀ j u, P[j]? = some u → w'.cell? (ad.add j) = some u from fun w' h => by rw [hP]; exact isRow_cells w0 h)
  have HRC := hid (show ∀ w', Below w.heap.size w w' → ∀ ad, a2 = some ad → ∀ j u, R[j]? = some u → w'.cell? (ad.add j) = some u from fun w' h => by rw [hR]; exact isRow_cells w2 h)
  have HP1 := hid (show ∀ u ∈ P, u.oneCell' = true by rw [hP]; exact ints_oneCell _ _)
  have HR1 := hid (show ∀ u ∈ R, u.oneCell' = true by rw [hR]; exact ints_oneCell _ _)
  have HN0 := hid (isRow_none w0)
  have HN2 := hid (isRow_none w2)
  have hul := uvarint_len3 s.size (by omega)
  clear hP hR w0 w2 hPl hRl
  obtain ⟨C, hC⟩ : ∃ C, C = len0 + s.size + len2 + 10 := ⟨_, rfl⟩
  have HC := hid hC
  have hC1 : len0 + s.size + len2 + 10 ≤ C := by omega
  have hC2 : C ≤ 4194304 := by omega
  clear hC
  go_enter Try.func6, Try.ntmps6
  go_wp2_with (first
    | (go_at_call 21; refine HZ.out.mono ?_; rintro e w' ⟨⟨r, rfl⟩, rfl⟩; cases r)
    | (at_make; refine wpList_make_own _ rfl _ _ 43 rfl w.heap.size 5 i5 (.int .u8 0) 1 Try.underlying43 hi5 hz50 hz51 _ _ _ C rfl rfl ?a1 ?a2 ?a3 ?a4 ?_))
  · go_ret
    exact ⟨rfl, Below.refl _ _⟩
  case a1 => have := HC.out; omega
  case a2 => rw [hz52]; omega
  case a3 => unfold maxLen; omega
  case a4 => exact Nat.le_refl _
  intro w1 own1 gr1
  have B1 : Below w.heap.size w w1 := (Below.refl _ _).grown gr1 (Nat.le_refl _) (fun _ h => by cases h)
  go_wp2_with (at_builtin; refine wpList_append_fits_any _ rfl _ _ 43 rfl w.heap.size 5 i5 1 Try.underlying43 hi5 hz51 w.heap.size 0 C [] rfl own1 a0 len0 cap0 P rfl ?b1 HN0.out (HPC.out _ B1) HP1.out ?b2 ?_)
  case b1 => rw [HP.out, Nat.mul_one]
  case b2 => omega
  intro w3 own3 gr3
  have B3 : Below w.heap.size w w3 := B1.grown gr3 B1.size (fun t h => by cases h; exact Nat.le_refl _)
  go_wp2_with fail
  refine (put_any w.heap.size w.heap.size len0 C s.size (by omega) P w3 own3 (by omega)).mono ?_
  rintro e w4 ⟨rfl, own4, gr4⟩
  have B4 : Below w.heap.size w w4 := B3.grown gr4 B3.size (fun t h => by cases h; exact Nat.le_refl _)
  clear own1 gr1 own3 gr3 gr4 B1 B3
  go_wp2_with (first
    | (at_builtin; refine Lib.wpList_append_fits_string _ rfl (.tmp 57) (.tmp 58) 43 9 rfl w.heap.size 5 i5 Try.underlying43 Try.underlying9 hi5 hz51 _ _ _ _ rfl own4 s rfl ?c1 ?c2 ?_))
  case c1 => omega
  case c2 => omega
  intro w5 own5 gr5
  have B5 : Below w.heap.size w w5 := B4.grown gr5 B4.size (fun t h => by cases h; exact Nat.le_refl _)
  clear own4 gr5 B4
  go_wp2_with (at_builtin; refine wpList_append_fits_any _ rfl _ _ 43 rfl w.heap.size 5 i5 1 Try.underlying43 hi5 hz51 w.heap.size _ C _ rfl own5 a2 len2 cap2 R rfl ?d1 HN2.out (HRC.out _ B5) HR1.out ?d2 ?_)
  case d1 => rw [HR.out, Nat.mul_one]
  case d2 => omega
  intro w6 own6 gr6
  have B6 : Below w.heap.size w w6 := B5.grown gr6 B5.size (fun t h => by cases h; exact Nat.le_refl _)
  clear own5 gr6 B5
  go_wp2_with fail
  refine (zzname_any w.heap.size w.heap.size _ C len0 s _ w6 (by omega) own6 (by omega) (by omega) (by omega) ?f1).mono ?_
  case f1 =>
    intro j u hj
    rw [Lib.byteCells_append] at hj
    have := at_of P _ _ R j u hj
    rw [HP.out] at this
    exact this
  rintro e w7 ⟨rfl, B7'⟩
  have B7 : Below w.heap.size w w7 := B6.trans (B7'.mono B6.size)
  have own7 := own6.kept (grownBy_below B7' none) (.inr (by simp [Value.ownBlock]))
  clear own6 B6 B7' HZ
  obtain ⟨X, hX⟩ : ∃ X, X = P ++ (Lib.byteCells (Lib.uvarint s.size) ++ (Lib.strCells s ++ R)) := ⟨_, rfl⟩
  rw [← hX] at own7
  have HX := hid hX
  clear hX
  go_wp2
  go_loopw [13] (fun i wr => ∃ (m : Nat) (ys : List Value), m ≤ s.size ∧ i = .int .i64 ((len0 + (Lib.uvarint s.size).length + m : Nat) : Int) ∧
      wr.ownsRow w.heap.size 5 1 (.slice (some ⟨w.heap.size, 0, none⟩) (len0 + (Lib.uvarint s.size).length + s.size + len2) C) (len0 + (Lib.uvarint s.size).length + s.size + len2) ys ∧
      Hid (∀ j, j < m → ys[len0 + (Lib.uvarint s.size).length + j]? = some (.int .u8 f)) ∧ Hid (∀ j, j < len0 + (Lib.uvarint s.size).length → ys[j]? = X[j]?) ∧ Below w.heap.size w wr)
    (fun i _ => len0 + (Lib.uvarint s.size).length + s.size - (intOf i).toNat)
  case atStart => exact ⟨0, X, by omega, by go_num, own7, hid (fun j hj => by omega), hid (fun j hj => rfl), B7⟩
  case round =>
    obtain ⟨m, ys, hm, rfl, oN, HF, HH, BW⟩ := hrel
    clear own7 B7
    by_cases hlt : m < s.size
    · obtain ⟨u, hu⟩ : ∃ u, ys[len0 + (Lib.uvarint s.size).length + m]? = some u := ⟨_, List.getElem?_eq_getElem (by have := oN.1; omega)⟩
      have c1 := (oN.cellAt (len0 + (Lib.uvarint s.size).length + m) (by omega)).trans hu
      have f1 := oN.frozenAt (len0 + (Lib.uvarint s.size).length + m)
      clear hu
      go_wp2
      go_roundw
      case rel =>
        obtain ⟨o1, _⟩ := oN.stored (len0 + (Lib.uvarint s.size).length + m) (.int .u8 f)
        have hyl : ys.length = len0 + (Lib.uvarint s.size).length + s.size + len2 := by have := oN.1; omega
        refine ⟨m + 1, _, by omega, by go_num, o1, hid ?_, hid ?_, BW.setCell (Nat.le_refl _) _⟩
        · intro j hj
          by_cases e : j = m
          · subst e
            rw [List.getElem?_set_self (by omega)]
          · rw [List.getElem?_set_ne (by omega)]
            exact HF.out j (by omega)
        · intro j hj
          rw [List.getElem?_set_ne (by omega)]
          exact HH.out j hj
      case measure => simp [intOf]; omega
    · obtain ⟨S, hS⟩ : ∃ S, S = same s.size f := ⟨_, rfl⟩
      have hSs : S.size = s.size := by rw [hS, same_size]
      have HSat : Hid (∀ k (h : k < S.size), ((S[k]'h).toNat : Int) = f) := by subst hS; exact same_at _ _ hf0 hf1
      have hxs : ∀ j u, (Lib.byteCells (Lib.uvarint S.size ++ S.data.toList))[j]? = some u → ys[len0 + j]? = some u := by
        intro j u hj
        rw [hSs, hS, same_data, Lib.byteCells_append] at hj
        have hbl : (Lib.byteCells (Lib.uvarint s.size)).length = (Lib.uvarint s.size).length := by simp [Lib.byteCells]
        by_cases hjU : j < (Lib.uvarint s.size).length
        · rw [List.getElem?_append_left (by omega)] at hj
          rw [HH.out _ (by omega), HX.out]
          have h2 := at_of P (Lib.byteCells (Lib.uvarint s.size)) [] (Lib.strCells s ++ R) j u (by simpa using hj)
          rw [HP.out] at h2
          exact h2
        · rw [List.getElem?_append_right (by omega), hbl] at hj
          have hlt2 : j - (Lib.uvarint s.size).length < s.size := by
            have := (List.getElem?_eq_some_iff.1 hj).1
            simpa [Lib.byteCells] using this
          have hu : u = .int .u8 f := by
            have e : (Lib.byteCells (List.replicate s.size f.toNat.toUInt8))[j - (Lib.uvarint s.size).length]? = some (.int .u8 f) := by
              rw [Lib.byteCells, List.map_replicate, List.getElem?_replicate, if_pos hlt2, Lib.toUInt8_toNat (by omega)]
              congr 2; omega
            rw [e] at hj
            exact (Option.some.inj hj).symm
          rw [hu, ← HF.out (j - (Lib.uvarint s.size).length) (by omega)]
          congr 1; omega
      have KS := hid (zzname_any w.heap.size w.heap.size _ C len0 S ys wr (by omega) oN (by rw [hSs]; omega) (by omega) (by rw [hSs]; omega) hxs)
      clear hxs hS HF HH HX oN
      go_wp2_with (go_at_call 20; refine KS.out.mono ?_; rintro e w8 ⟨rfl, B8⟩)
      have B9 : Below w.heap.size w w8 := BW.trans (B8.mono BW.size)
      go_loop [15] (fun i => ∃ k : Nat, k ≤ s.size ∧ i = .int .i64 k) (fun i => s.size - (intOf i).toNat)
      case atStart => exact ⟨0, by omega, rfl⟩
      case round =>
        obtain ⟨k, hk, rfl⟩ := hrel
        by_cases hks : k < s.size
        · have hat := HSat.out k (by omega)
          go_wp2
          go_round
          case rel => exact ⟨k + 1, by omega, by go_num⟩
          case measure => simp [intOf]; omega
        · go_wp2
          go_ret
          exact ⟨rfl, B9⟩
end Go.Proofs.Qxb6612640a
