/- What came in: a URIArg opened. -/
import Derived.Test.Qxb6612909aSubU
import Derived.ProofKit
import Derived.OpenShut
import Derived.ShutString
import Derived.ChangeOld
import Derived.Below
import Derived.Deep.SlicePairs
namespace Go.Proofs.Qxb6612909a.fnNewSubscriberTwiceGivesTwo
open Go.ChangeShapes Go.WideShapes Go.ChangeAt Go.RowKit
set_option linter.unusedVariables false

theorem cells9 : Try.prog.cellsOf 9 = 1 := by kernel_rfl
theorem cells3 : Try.prog.cellsOf 3 = 1 := by kernel_rfl
theorem cells31 : Try.prog.cellsOf 31 = 1 := by kernel_rfl
theorem cells55 : Try.prog.cellsOf 55 = 2 := by kernel_rfl
theorem cells33 : Try.prog.cellsOf 33 = 8 := by kernel_rfl

/-- The text in a cell. -/
def txt : Value → ByteArray
  | .string s => s
  | _ => ByteArray.empty

set_option maxRecDepth 100000 in
theorem open_params {H : Type} {enc : TypeId × Value → H} {W : World} {spare : Nat → Bool} {held : Bool} {fuel : Nat} {v : Value} {x : DataW H × List MemPlace}
    (h : DataW.trod enc Try.prog W 0 spare held fuel 31 [v] = some x) : ∃ a n c f, v = .slice a n c ∧ PAt W a n c f := by
  rcases Go.Deep.open_slice_pairs Try.underlying31 Try.underlying55 cells55 rfl rfl cells9 cells9 h with ⟨hcs, _⟩ | ⟨a, len, cap, m, n, V0, V1, D0, D1, P0, P1, hcs, _, hl, hm, hmm, _, hc⟩
  · simp only [List.cons.injEq, and_true] at hcs
    exact ⟨none, 0, 0, fun _ => ByteArray.empty, hcs, fun _ => ⟨rfl, rfl⟩, fun h => by omega⟩
  · simp only [List.cons.injEq, and_true] at hcs
    have hlm : len ≤ m := by rw [hmm]; split <;> omega
    refine ⟨some a, len, cap, fun j => if j % 2 = 0 then txt (V0 (j / 2)) else txt (V1 (j / 2)), hcs, (fun h => by cases h), fun h0 => ?_⟩
    obtain ⟨b, off, spot⟩ := a
    have c0 := (hc 0 (by omega)).1
    have hspot : spot = none := by simpa [Addr.add] using World.cell?_spot c0
    subst hspot
    have hb : b < W.heap.size := by
      have := World.block_lt_of_cell? W _ c0
      simpa [Addr.add] using this
    refine ⟨b, off, rfl, hb, fun j hj => ?_⟩
    obtain ⟨e0, e1, g0, g1⟩ := hc (j / 2) (by omega)
    obtain ⟨s0, hs0, _⟩ := DataW.trod_string Try.underlying9 g0
    obtain ⟨s1, hs1, _⟩ := DataW.trod_string Try.underlying9 g1
    simp only [List.cons.injEq, and_true] at hs0 hs1
    rw [Addr.add_lit] at e0 e1
    by_cases hp : j % 2 = 0
    · rw [if_pos hp, hs0, show off + j = off + j / 2 * 2 by omega, e0, hs0]
      rfl
    · rw [if_neg hp, hs1, show off + j = off + (j / 2 * 2 + 1) by omega, e1, hs1]
      rfl

set_option maxRecDepth 100000 in
theorem open_uri {H : Type} {enc : TypeId × Value → H} {W : World} {spare : Nat → Bool} {held : Bool} {fuel : Nat} {v : Value} {x : DataW H × List MemPlace} {r : Reach} {base : Nat}
    (ok : Value.okWide Try.prog W r base 33 v) (h : DataW.trod enc Try.prog W 0 spare held fuel 33 v.cells.toList = some x) : ∃ u : U, v = u.val ∧ u.At W := by
  obtain ⟨⟨l⟩, rfl, hsz⟩ := okWide_struct Try.underlying33 ok
  obtain ⟨xs, n, _, _, hl, hx, hf⟩ := DataW.trod_struct Try.underlying33 h
  have hl8 : l.length = 8 := by rw [cells33] at hsz; simpa using hsz
  match l, hl8, xs, hx with
  | [v0, v1, v2, v3, v4, v5, v6, v7], _, [x0, x1, x2, x3, x4, x5, x6, x7], _ =>
    have f0 := hf 0 _ rfl
    have f1 := hf 1 _ rfl
    have f2 := hf 2 _ rfl
    have f3 := hf 3 _ rfl
    have f4 := hf 4 _ rfl
    have f5 := hf 5 _ rfl
    have f6 := hf 6 _ rfl
    have f7 := hf 7 _ rfl
    simp [cells9, cells3, cells31, Value.cells] at f0 f1 f2 f3 f4 f5 f6 f7
    obtain ⟨s0, h0, _⟩ := DataW.trod_string Try.underlying9 f0
    obtain ⟨s1, h1, _⟩ := DataW.trod_string Try.underlying9 f1
    obtain ⟨s2, h2, _⟩ := DataW.trod_string Try.underlying9 f2
    obtain ⟨s3, h3, _⟩ := DataW.trod_string Try.underlying9 f3
    obtain ⟨i4, h4, _⟩ := DataW.trod_int Try.underlying3 f4
    obtain ⟨a5, n5, c5, g5, rfl, p5⟩ := open_params f5
    obtain ⟨a6, n6, c6, g6, rfl, p6⟩ := open_params f6
    obtain ⟨s7, h7, _⟩ := DataW.trod_string Try.underlying9 f7
    simp only [List.cons.injEq, and_true] at h0 h1 h2 h3 h4 h7
    subst h0 h1 h2 h3 h4 h7
    exact ⟨⟨s0, s1, s2, s3, s7, i4, a5, a6, n5, c5, n6, c6, g5, g6⟩, rfl, p5, p6⟩
end Go.Proofs.Qxb6612909a.fnNewSubscriberTwiceGivesTwo
