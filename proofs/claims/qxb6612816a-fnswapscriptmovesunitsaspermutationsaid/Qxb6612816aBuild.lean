/- zzBuild (8). -/
import Derived.Test.Qxb6612816aSwap
namespace Go.Proofs.Qxb6612816a
open Go.RowKit
set_option linter.unusedVariables false

theorem info29 : (Try.prog.info? 29).map (fun i => (i.zero, i.size, i.bytes)) = some (some (.pointer none), 1, 8) := by kernel_rfl

/-- What zzBuild leaves. -/
structure Built (n gh go : Nat) (us : Nat → Nat) (w w' : World) : Prop where
  rowH : w'.ownsRow w.heap.size 29 1 (.slice (some ⟨gh, 0, none⟩) n n) n (ptrs us n)
  rowO : w'.ownsRow w.heap.size 29 1 (.slice (some ⟨go, 0, none⟩) n n) n (ptrs us n)
  ne : gh ≠ go
  units : ∀ k, k < n → UnitAt w' (us k) k
  inj : ∀ x y, x < n → y < n → us x = us y → x = y
  old : ∀ k, k < n → w.heap.size ≤ us k
  below : Below w.heap.size w w'

/-- The first k are laid. -/
structure Part (k n gh go : Nat) (us : Nat → Nat) (xs ys : List Value) (w w' : World) : Prop where
  rowH : w'.ownsRow w.heap.size 29 1 (.slice (some ⟨gh, 0, none⟩) n n) n xs
  rowO : w'.ownsRow w.heap.size 29 1 (.slice (some ⟨go, 0, none⟩) n n) n ys
  xs : ∀ j, j < k → xs[j]? = some (.pointer (some ⟨us j, 0, none⟩))
  ys : ∀ j, j < k → ys[j]? = some (.pointer (some ⟨us j, 0, none⟩))
  units : ∀ j, j < k → UnitAt w' (us j) j
  inj : ∀ x y, x < k → y < k → us x = us y → x = y
  old : ∀ j, j < k → w.heap.size ≤ us j
  below : Below w.heap.size w w'

theorem full_row {us : Nat → Nat} {n : Nat} {xs : List Value} (h1 : xs.length = n) (h : ∀ j, j < n → xs[j]? = some (.pointer (some ⟨us j, 0, none⟩))) : xs = ptrs us n := by
  apply List.ext_getElem?
  intro j
  by_cases hj : j < n
  · rw [h j hj, ptrs_at us n j hj]
  · rw [List.getElem?_eq_none (by omega), List.getElem?_eq_none (by simp [ptrs]; omega)]

theorem part_full {n gh go : Nat} {us : Nat → Nat} {xs ys : List Value} {w w' : World} (h : Part n n gh go us xs ys w w') (hne : gh ≠ go) : Built n gh go us w w' := by
  have e1 : xs = ptrs us n := full_row (by have := h.rowH.1; omega) h.xs
  have e2 : ys = ptrs us n := full_row (by have := h.rowO.1; omega) h.ys
  exact { rowH := by rw [← e1]; exact h.rowH, rowO := by rw [← e2]; exact h.rowO, ne := hne, units := h.units, inj := h.inj, old := h.old, below := h.below }

/-- One unit more. -/
theorem part_step {k n gh go : Nat} {us : Nat → Nat} {xs ys : List Value} {w w' w1 : World} (h : Part k n gh go us xs ys w w') (hk : k < n) (hne : gh ≠ go)
    (u1 : UnitAt w1 w'.heap.size k) (g1 : w'.grownBy w1 none) :
    Part (k + 1) n gh go (upd us k w'.heap.size) (xs.set k (.pointer (some ⟨w'.heap.size, 0, none⟩))) (ys.set k (.pointer (some ⟨w'.heap.size, 0, none⟩))) w
      ((w1.setCell ⟨gh, k, none⟩ (.pointer (some ⟨w'.heap.size, 0, none⟩))).setCell ⟨go, k, none⟩ (.pointer (some ⟨w'.heap.size, 0, none⟩))) := by
  have hgh := h.rowH.lt gh rfl
  have hgo := h.rowO.lt go rfl
  have r1 := h.rowH.kept g1 (.inr (by simp [Value.ownBlock]))
  have r2 := h.rowO.kept g1 (.inr (by simp [Value.ownBlock]))
  have lx : xs.length = n := by have := h.rowH.1; omega
  have ly : ys.length = n := by have := h.rowO.1; omega
  obtain ⟨s1, gs1⟩ := r1.stored k (.pointer (some ⟨w'.heap.size, 0, none⟩))
  have s1o := r2.kept gs1 (.inr (by simp [Value.ownBlock]; omega))
  obtain ⟨s2, gs2⟩ := s1o.stored k (.pointer (some ⟨w'.heap.size, 0, none⟩))
  have s2h := s1.kept gs2 (.inr (by simp [Value.ownBlock]; omega))
  have b1 : Below w.heap.size w w1 := h.below.grown g1 h.below.size (fun _ h => by cases h)
  have hb : ∀ b, b ≠ gh → b ≠ go → ((w1.setCell ⟨gh, k, none⟩ (.pointer (some ⟨w'.heap.size, 0, none⟩))).setCell ⟨go, k, none⟩ (.pointer (some ⟨w'.heap.size, 0, none⟩))).heap[b]? = w1.heap[b]? := fun b h1 h2 => by
    rw [heap_setCell_other _ ⟨go, k, none⟩ b _ h2, heap_setCell_other _ ⟨gh, k, none⟩ b _ h1]
  have hrow : ∀ zs : List Value, zs.length = n → (∀ j, j < k → zs[j]? = some (.pointer (some ⟨us j, 0, none⟩))) → ∀ j, j < k + 1 → (zs.set k (.pointer (some ⟨w'.heap.size, 0, none⟩)))[j]? = some (.pointer (some ⟨upd us k w'.heap.size j, 0, none⟩)) := by
    intro zs hz hs j hj
    by_cases e : j = k
    · subst e; rw [List.getElem?_set_self (by omega)]; simp [upd]
    · rw [List.getElem?_set_ne (by omega), hs j (by omega)]; simp [upd, e]
  refine ⟨s2h, s2, hrow xs lx h.xs, hrow ys ly h.ys, ?_, ?_, ?_, (b1.setCell (p := ⟨gh, k, none⟩) hgh.1 _).setCell (p := ⟨go, k, none⟩) hgo.1 _⟩
  · intro j hj
    by_cases e : j = k
    · subst e
      have : upd us j w'.heap.size j = w'.heap.size := by simp [upd]
      rw [this]
      exact u1.of_block (hb _ (by omega) (by omega))
    · have : upd us k w'.heap.size j = us j := by simp [upd, e]
      rw [this]
      have uj := h.units j (by omega)
      exact uj.of_block ((hb _ (unit_ne_row h.rowH uj) (unit_ne_row h.rowO uj)).trans (g1.block _ uj.lt (by simp)))
  · intro x y hx hy hxy
    have lt : ∀ j, j < k → us j < w'.heap.size := fun j hj => (h.units j hj).lt
    unfold upd at hxy
    by_cases ex : x = k
    · by_cases ey : y = k
      · omega
      · rw [if_pos ex, if_neg ey] at hxy
        have := lt y (by omega); omega
    · by_cases ey : y = k
      · rw [if_neg ex, if_pos ey] at hxy
        have := lt x (by omega); omega
      · rw [if_neg ex, if_neg ey] at hxy
        exact h.inj x y (by omega) (by omega) hxy
  · intro j hj
    unfold upd
    split
    · exact h.below.size
    · exact h.old j (by omega)

set_option maxHeartbeats 1000000 in
set_option maxRecDepth 100000 in
theorem build_any (n : Nat) (w : World) (hn : n ≤ 65536) :
    Calls Try.prog 8 #[.int .i64 n] w fun e w' => ∃ gh go us, e = .returned (.tuple #[.slice (some ⟨gh, 0, none⟩) n n, .slice (some ⟨go, 0, none⟩) n n]) ∧ Built n gh go us w w' := by
  obtain ⟨i29, hi29, hz290, hz291, hz292⟩ := info_parts info29
  go_enter Try.func8, Try.ntmps8
  go_wp2_with (at_make; refine wpList_make_full _ rfl _ _ 25 rfl w.heap.size 29 i29 (.pointer none) 1 Try.underlying25 hi29 hz290 hz291 _ _ _ _ n rfl rfl (by rfl) (by rfl) (by rw [hz292]; omega) (by unfold maxLen; omega) (Nat.le_refl _) ?_)
  intro w1 own1 gr1
  have B1 : Below w.heap.size w w1 := (Below.refl _ _).grown gr1 (Nat.le_refl _) (fun _ h => by cases h)
  have s1 : w.heap.size < w1.heap.size := (own1.lt _ rfl).2
  clear gr1
  go_wp2_with (at_make; refine wpList_make_full _ rfl _ _ 24 rfl w.heap.size 29 i29 (.pointer none) 1 Try.underlying24 hi29 hz290 hz291 _ _ _ _ n rfl rfl (by rfl) (by rfl) (by rw [hz292]; omega) (by unfold maxLen; omega) B1.size ?_)
  intro w2 own2 gr2
  have B2 : Below w.heap.size w w2 := B1.grown gr2 B1.size (fun _ h => by cases h)
  have own1' := own1.kept gr2 (.inr (by simp [Value.ownBlock]))
  obtain ⟨go, hgo⟩ : ∃ go, go = w1.heap.size := ⟨_, rfl⟩
  rw [← hgo] at own2 s1 ⊢
  have HP : Hid (Part 0 n w.heap.size go (fun _ => 0) _ _ w w2) := { rowH := own1', rowO := own2, xs := fun j hj => by omega, ys := fun j hj => by omega, units := fun j hj => by omega, inj := fun x y hx => by omega, old := fun j hj => by omega, below := B2 }
  clear own1 own1' own2 gr2 hgo B1 B2
  go_wp2
  go_loopw [6] (fun i wr => ∃ (k : Nat) (us : Nat → Nat) (xs ys : List Value), k ≤ n ∧ i = .int .i64 k ∧ Hid (Part k n w.heap.size go us xs ys w wr)) (fun i _ => n - (intOf i).toNat)
  case atStart => exact ⟨0, _, _, _, by omega, rfl, HP⟩
  case round =>
    obtain ⟨k, us, xs, ys, hk, rfl, HQ⟩ := hrel
    clear HP
    by_cases hlt : k < n
    · have lx : xs.length = n := by have := HQ.out.rowH.1; omega
      have ly : ys.length = n := by have := HQ.out.rowO.1; omega
      obtain ⟨u, hu⟩ : ∃ u, xs[k]? = some u := ⟨_, List.getElem?_eq_getElem (by omega)⟩
      obtain ⟨v, hv⟩ : ∃ v, ys[k]? = some v := ⟨_, List.getElem?_eq_getElem (by omega)⟩
      have cH := (HQ.out.rowH.cellAt k (by omega)).trans hu
      have cO := (HQ.out.rowO.cellAt k (by omega)).trans hv
      have fH := HQ.out.rowH.frozenAt k
      have fO := HQ.out.rowO.frozenAt k
      have sH := (HQ.out.rowH.lt _ rfl).2
      have sO := (HQ.out.rowO.lt _ rfl).2
      have LX := hid lx
      have LY := hid ly
      clear hu hv lx ly
      go_wp2_with (go_at_call 12; refine (newUnit_any _ _).mono ?_; rintro e w3 ⟨rfl, u3, g3⟩; have cH3 := g3.cell cH (by simp); have cO3 := g3.cell cO (by simp); have fH3 := (World.frozen?_of_block (w := wr) (w' := w3) (a := ⟨w.heap.size, k, none⟩) (g3.block _ sH (by simp))).trans fH; have fO3 := (World.frozen?_of_block (w := wr) (w' := w3) (a := ⟨go, k, none⟩) (g3.block _ sO (by simp))).trans fO)
      go_roundw
      case rel => exact ⟨k + 1, _, _, _, by omega, by go_num, hid (part_step HQ.out hlt (by omega) u3 g3)⟩
      case measure => simp [intOf]; omega
    · obtain rfl : k = n := by omega
      go_wp2
      go_ret2
      exact ⟨_, _, us, rfl, part_full HQ.out (by omega)⟩
end Go.Proofs.Qxb6612816a
