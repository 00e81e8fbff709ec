/- FnStartAtAnyCut (3): every input. -/
import Derived.Test.Qxb6612909aCut
import Derived.Lib.VarintMem
namespace Go.Proofs.Qxb6612909a
open Go.RowKit
set_option linter.unusedVariables false

/-- A slice of integers that came in: nil; or a row of 'cap' cells, the numbers 'zs'. -/
def IsRow (k : IntKind) (w : World) (a : Option Addr) (len cap : Nat) (zs : List Int) : Prop :=
  (a = none ∧ len = 0 ∧ cap = 0 ∧ zs = []) ∨
  ∃ x, a = some x ∧ len ≤ cap ∧ cap ≤ maxLen ∧ zs.length = cap ∧ (∀ i, i < zs.length → w.cell? (x.add i) = some (.int k (zs.getD i 0))) ∧ ∀ n ∈ zs, (Lit.int k n).wf = true

def bytesOf (zs : List Int) (len : Nat) : List UInt8 := (zs.take len).map fun z => z.toNat.toUInt8

theorem bytes_of_row {w : World} {a : Option Addr} {len cap : Nat} {zs : List Int} (h : IsRow .u8 w a len cap zs) : BytesAt w a len cap (bytesOf zs len) := by
  rcases h with ⟨rfl, rfl, rfl, rfl⟩ | ⟨x, rfl, hl, hm, hz, hc, hwf⟩
  · exact ⟨rfl, fun _ => ⟨rfl, rfl⟩, fun h => by omega⟩
  · refine ⟨by simp [bytesOf]; omega, (fun h => by cases h), fun h0 => ?_⟩
    obtain ⟨b, off, spot⟩ := x
    have c0 := hc 0 (by omega)
    have hspot : spot = none := by simpa [Addr.add] using World.cell?_spot c0
    subst hspot
    refine ⟨b, off, rfl, by have := World.block_lt_of_cell? w _ c0; simpa [Addr.add] using this, fun j u hu => ?_⟩
    have hjl : j < len := by
      have := (List.getElem?_eq_some_iff.1 hu).1
      simp [Lib.byteCells, bytesOf] at this
      omega
    have hj' : j < zs.length := by omega
    have c := hc j hj'
    rw [Addr.add_lit] at c
    rw [c]
    have hw := hwf _ (List.getElem_mem hj')
    simp [Lit.wf, IntKind.min, IntKind.max, IntKind.signed, IntKind.bits] at hw
    have e1 : zs.getD j 0 = zs[j] := by simp [List.getD, List.getElem?_eq_getElem hj']
    have e2 : (bytesOf zs len)[j]? = some (zs[j].toNat.toUInt8) := by
      simp [bytesOf, hjl, List.getElem?_eq_getElem hj']
    rw [Lib.byteCells, List.getElem?_map, e2] at hu
    simp only [Option.map_some] at hu
    rw [e1, ← hu, Lib.toUInt8_toNat (by omega), Int.toNat_of_nonneg (by omega)]

set_option maxHeartbeats 1000000 in
set_option maxRecDepth 100000 in
theorem cut_top (a : Option Addr) (N cap : Nat) (zs : List Int) (z : Int) (s t : ByteArray) (w : World) (w0 : IsRow .u8 w a N cap zs) :
    Calls Try.prog 3 #[.slice a N cap, .int .i64 z, .string s, .string t] w fun e w' => e = .returned (.bool true) ∧ Below w.heap.size w w' := by
  have KZ := hid (zz5 a N cap z s t w)
  by_cases h1 : (1048576 : Int) < N
  · clear w0
    go_enter Try.func3, Try.ntmps3
    go_wp2_with (go_at_call 5; refine KZ.out.mono ?_; rintro e w' ⟨⟨r, rfl⟩, rfl⟩; cases r)
    all_goals
      go_ret
      exact ⟨rfl, Below.refl _ _⟩
  by_cases h2 : (1048576 : Int) < s.size
  · clear w0
    go_enter Try.func3, Try.ntmps3
    go_wp2_with (go_at_call 5; refine KZ.out.mono ?_; rintro e w' ⟨⟨r, rfl⟩, rfl⟩; cases r)
    all_goals
      go_ret
      exact ⟨rfl, Below.refl _ _⟩
  by_cases h3 : (1048576 : Int) < t.size
  · clear w0
    go_enter Try.func3, Try.ntmps3
    go_wp2_with (go_at_call 5; refine KZ.out.mono ?_; rintro e w' ⟨⟨r, rfl⟩, rfl⟩; cases r)
    all_goals
      go_ret
      exact ⟨rfl, Below.refl _ _⟩
  by_cases h4 : (1048576 : Int) < (N : Int) + s.size + t.size
  · clear w0
    go_enter Try.func3, Try.ntmps3
    go_wp2_with (go_at_call 5; refine KZ.out.mono ?_; rintro e w' ⟨⟨r, rfl⟩, rfl⟩; cases r)
    all_goals
      go_ret
      exact ⟨rfl, Below.refl _ _⟩
  · exact cut_walk a N cap z s t _ w (bytes_of_row w0) (by omega) (by omega) (by omega) (by omega)
end Go.Proofs.Qxb6612909a
