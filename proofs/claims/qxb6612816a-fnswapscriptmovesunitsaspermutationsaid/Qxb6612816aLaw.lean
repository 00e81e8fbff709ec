/- FnSwapScriptMovesUnitsAsPermutation (3): the walk. -/
import Derived.Test.Qxb6612816aBuild
import Derived.Deep.QuietTactic
import Derived.BigQuiet
import Derived.Lib.Builder
namespace Go.Proofs.Qxb6612816a
open Go.RowKit
set_option linter.unusedVariables false

theorem info3 : (Try.prog.info? 3).map (fun i => (i.zero, i.size, i.bytes)) = some (some (.int .i64 0), 1, 8) := by kernel_rfl
theorem info60 : ∃ i, Try.prog.info? 60 = some i := Option.isSome_iff_exists.1 (by kernel_rfl)

def SomeBool (e : Ending) : Prop := ∃ r : Bool, e = .returned (.bool r)

set_option maxHeartbeats 1000000 in
set_option maxRecDepth 100000 in
theorem zz7 (n : Int) (a : Option Addr) (l c : Nat) (w : World) :
    Calls Try.prog 7 #[.int .i64 n, .slice a l c] w fun e w' => SomeBool e ∧ w = w' := by
  by_cases h1 : (1048576 : Int) < l
  · go_enter Try.func7, Try.ntmps7
    go_wp2
    go_ret
    exact ⟨⟨_, rfl⟩, rfl⟩
  · go_enter Try.func7, Try.ntmps7
    go_wp2
    go_ret
    exact ⟨⟨_, rfl⟩, rfl⟩

/-- The heap h, the record orig and the permutation stand in step. -/
structure Inv (n gh go gp : Nat) (us hs ps : Nat → Nat) (w w' : World) : Prop where
  rowH : w'.ownsRow w.heap.size 29 1 (.slice (some ⟨gh, 0, none⟩) n n) n (ptrs hs n)
  rowO : w'.ownsRow w.heap.size 29 1 (.slice (some ⟨go, 0, none⟩) n n) n (ptrs us n)
  rowP : w'.ownsRow w.heap.size 3 1 (.slice (some ⟨gp, 0, none⟩) n n) n (nums ps n)
  hgo : gh ≠ go
  hgp : gh ≠ gp
  ogp : go ≠ gp
  eq : ∀ k, k < n → hs k = us (ps k)
  lt : ∀ k, k < n → ps k < n
  inj : ∀ x y, x < n → y < n → hs x = hs y → x = y
  units : ∀ k, k < n → UnitAt w' (hs k) k
  old : ∀ k, k < n → w.heap.size ≤ hs k
  below : Below w.heap.size w w'

theorem unit_ne_nums {w : World} {base gp n b : Nat} {xs : List Value} {k : Int} (h : w.ownsRow base 3 1 (.slice (some ⟨gp, 0, none⟩) n n) n xs) (u : UnitAt w b k) : b ≠ gp := by
  intro e
  obtain ⟨cs, h1, _, _⟩ := u
  rcases h.2 with ⟨h', _⟩ | ⟨g', cap', cur, h', _, hg, _⟩
  · simp at h'
  · simp only [Value.slice.injEq, Option.some.injEq, Addr.mk.injEq, and_true, true_and] at h'
    rw [e, h'.1, hg] at h1
    simp at h1

theorem own_of_block {w w' : World} {base e g n cap : Nat} {xs : List Value} (h : w.ownsRow base e 1 (.slice (some ⟨g, 0, none⟩) n cap) n xs) (hb : w'.heap[g]? = w.heap[g]?) : w'.ownsRow base e 1 (.slice (some ⟨g, 0, none⟩) n cap) n xs := by
  refine ⟨h.1, ?_⟩
  rcases h.2 with ⟨h', _⟩ | ⟨g', cap', cur, h', hb', hg, rest⟩
  · simp at h'
  · have hgg : g = g' := by simp only [Value.slice.injEq, Option.some.injEq, Addr.mk.injEq] at h'; omega
    exact .inr ⟨g', cap', cur, h', hb', by rw [← hgg, hb, hgg]; exact hg, rest⟩

theorem inv_step {n gh go gp : Nat} {us hs ps : Nat → Nat} {w w' w1 : World} (h : Inv n gh go gp us hs ps w w') {a b : Nat} (ha : a < n) (hb : b < n) (s : Swapped gh n a b hs w.heap.size w' w1) :
    Inv n gh go gp us (swap hs a b) (swap ps a b) w ((w1.setCell ⟨gp, a, none⟩ (.int .i64 (ps b : Nat))).setCell ⟨gp, b, none⟩ (.int .i64 (ps a : Nat))) := by
  have ua := h.units a ha
  have ub := h.units b hb
  have na := unit_ne_row h.rowO ua
  have nb := unit_ne_row h.rowO ub
  have pa := unit_ne_nums h.rowP ua
  have pb := unit_ne_nums h.rowP ub
  have hbO : w1.heap[go]? = w'.heap[go]? := s.block go (Ne.symm h.hgo) (Ne.symm na) (Ne.symm nb)
  have hbP : w1.heap[gp]? = w'.heap[gp]? := s.block gp (Ne.symm h.hgp) (Ne.symm pa) (Ne.symm pb)
  have rO := own_of_block h.rowO hbO
  have rP := own_of_block h.rowP hbP
  obtain ⟨p1, g1⟩ := rP.stored a (.int .i64 (ps b : Nat))
  rw [nums_set] at p1
  obtain ⟨p2, g2⟩ := p1.stored b (.int .i64 (ps a : Nat))
  rw [nums_set] at p2
  have hlt := h.rowP.lt gp rfl
  have hgh := h.rowH.lt gh rfl
  have hbk : ∀ q, q ≠ gp → ((w1.setCell ⟨gp, a, none⟩ (.int .i64 (ps b : Nat))).setCell ⟨gp, b, none⟩ (.int .i64 (ps a : Nat))).heap[q]? = w1.heap[q]? := fun q hq => by
    rw [heap_setCell_other _ ⟨gp, b, none⟩ q _ hq, heap_setCell_other _ ⟨gp, a, none⟩ q _ hq]
  have B1 : Below w.heap.size w w1 := by
    have oa := h.old a ha
    have ob := h.old b hb
    refine ⟨s.os.trans h.below.os, s.tape.trans h.below.tape, s.output.trans h.below.output, by rw [s.size]; exact h.below.size, fun q hq => ?_⟩
    exact (s.block q (by omega) (by omega) (by omega)).trans (h.below.block q hq)
  refine { rowH := own_of_block s.row (hbk gh h.hgp), rowO := own_of_block rO (hbk go h.ogp), rowP := p2, hgo := h.hgo, hgp := h.hgp, ogp := h.ogp, eq := ?_, lt := ?_, inj := ?_, units := ?_, old := ?_, below := (B1.setCell (p := ⟨gp, a, none⟩) hlt.1 _).setCell (p := ⟨gp, b, none⟩) hlt.1 _ }
  · intro k hk
    rw [swap_at, swap_at]
    split
    · exact h.eq a ha
    · split
      · exact h.eq b hb
      · exact h.eq k hk
  · intro k hk
    rw [swap_at]
    split
    · exact h.lt a ha
    · split
      · exact h.lt b hb
      · exact h.lt k hk
  · intro x y hx hy hxy
    have e : ∀ k, swap hs a b k = hs (if k = b then a else if k = a then b else k) := by
      intro k; rw [swap_at]; split
      · rfl
      · split <;> rfl
    rw [e x, e y] at hxy
    have hlt2 : ∀ k, k < n → (if k = b then a else if k = a then b else k) < n := fun k hk => by
      split
      · exact ha
      · split <;> omega
    have h3 := h.inj _ _ (hlt2 x hx) (hlt2 y hy) hxy
    revert h3
    split <;> split <;> (try split) <;> (try split) <;> intro h3 <;> omega
  · intro k hk
    rw [swap_at]
    by_cases k1 : k = b
    · rw [if_pos k1, k1]
      exact s.uj.of_block (hbk _ pa)
    · rw [if_neg k1]
      by_cases k2 : k = a
      · rw [if_pos k2, k2]
        exact s.ui.of_block (hbk _ pb)
      · rw [if_neg k2]
        have uk := h.units k hk
        have hka : hs k ≠ hs a := fun e => k2 (h.inj k a hk ha e)
        have hkb : hs k ≠ hs b := fun e => k1 (h.inj k b hk hb e)
        exact uk.of_block ((hbk _ (unit_ne_nums h.rowP uk)).trans (s.block _ (unit_ne_row h.rowH uk) hka hkb))
  · intro k hk
    rw [swap_at]
    split
    · exact h.old a ha
    · split
      · exact h.old b hb
      · exact h.old k hk
end Go.Proofs.Qxb6612816a
