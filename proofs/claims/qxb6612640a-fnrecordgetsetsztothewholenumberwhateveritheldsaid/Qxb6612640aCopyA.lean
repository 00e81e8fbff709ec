/- FnNameIsACopyOfTheBytes: what is plain, and the bound's function (21). -/
import Derived.Test.Qxb6612640aName
import Derived.Test.Qxb6612640aPut
import Derived.Room.AppendFits
namespace Go.Proofs.Qxb6612640a
open Go.RowKit
set_option linter.unusedVariables false

def SomeBool (e : Ending) : Prop := ∃ r : Bool, e = .returned (.bool r)

set_option maxHeartbeats 1000000 in
set_option maxRecDepth 100000 in
theorem zz21 (a0 a2 : Option Addr) (l0 c0 l2 c2 : Nat) (s : ByteArray) (f : Int) (w : World) :
    Calls Try.prog 21 #[.slice a0 l0 c0, .string s, .slice a2 l2 c2, .int .u8 f] w fun e w' => SomeBool e ∧ w = w' := by
  by_cases h1 : (1048576 : Int) < l0
  · go_enter Try.func21, Try.ntmps21
    go_wp2
    go_ret
    exact ⟨⟨_, rfl⟩, rfl⟩
  by_cases h2 : (1048576 : Int) < s.size
  · go_enter Try.func21, Try.ntmps21
    go_wp2
    go_ret
    exact ⟨⟨_, rfl⟩, rfl⟩
  by_cases h3 : (1048576 : Int) < (l0 : Int) + s.size
  · go_enter Try.func21, Try.ntmps21
    go_wp2
    go_ret
    exact ⟨⟨_, rfl⟩, rfl⟩
  by_cases h4 : (1048576 : Int) < l2
  · go_enter Try.func21, Try.ntmps21
    go_wp2
    go_ret
    exact ⟨⟨_, rfl⟩, rfl⟩
  by_cases h5 : (1048576 : Int) < (l0 : Int) + s.size + l2
  · go_enter Try.func21, Try.ntmps21
    go_wp2
    go_ret
    exact ⟨⟨_, rfl⟩, rfl⟩
  · go_enter Try.func21, Try.ntmps21
    go_wp2
    go_ret
    exact ⟨⟨_, rfl⟩, rfl⟩

/-- A slice of integers that came in: nil; or a row of 'cap' cells, the numbers 'zs'. -/
def IsRow (k : IntKind) (w : World) (a : Option Addr) (len cap : Nat) (zs : List Int) : Prop :=
  (a = none ∧ len = 0 ∧ cap = 0 ∧ zs = []) ∨
  ∃ x, a = some x ∧ len ≤ cap ∧ cap ≤ maxLen ∧ zs.length = cap ∧ (∀ i, i < zs.length → w.cell? (x.add i) = some (.int k (zs.getD i 0))) ∧ ∀ n ∈ zs, (Lit.int k n).wf = true

theorem isRow_none {k : IntKind} {w : World} {a : Option Addr} {len cap : Nat} {zs : List Int} (h : IsRow k w a len cap zs) : a = none → len = 0 ∧ cap = 0 := by
  rcases h with ⟨_, h1, h2, _⟩ | ⟨x, rfl, _⟩
  · exact fun _ => ⟨h1, h2⟩
  · intro h; cases h

theorem isRow_len {k : IntKind} {w : World} {a : Option Addr} {len cap : Nat} {zs : List Int} (h : IsRow k w a len cap zs) : (zs.take len).length = len := by
  rcases h with ⟨_, rfl, _, rfl⟩ | ⟨x, _, hl, _, hz, _⟩
  · rfl
  · simp; omega

theorem isRow_cells {k : IntKind} {w w' : World} {a : Option Addr} {len cap : Nat} {zs : List Int} (h : IsRow k w a len cap zs) (hb : Below w.heap.size w w') :
    ∀ ad, a = some ad → ∀ j u, ((zs.take len).map (Value.int k))[j]? = some u → w'.cell? (ad.add j) = some u := by
  rcases h with ⟨rfl, _⟩ | ⟨x, rfl, hl, hm, hz, hc, _⟩
  · intro ad h; cases h
  · intro ad had j u hu
    obtain rfl := Option.some.inj had
    rw [List.getElem?_map] at hu
    obtain ⟨n, hn, rfl⟩ := Option.map_eq_some_iff.1 hu
    rw [List.getElem?_take] at hn
    split at hn
    · have hj : j < zs.length := (List.getElem?_eq_some_iff.1 hn).1
      have c := hc j hj
      rw [hb.cell (World.block_lt_of_cell? w _ c), c]
      simp [List.getD, hn]
    · cases hn

/-- Bytes that are all one. -/
def same (n : Nat) (f : Int) : ByteArray := ⟨(List.replicate n f.toNat.toUInt8).toArray⟩
theorem same_size (n : Nat) (f : Int) : (same n f).size = n := by
  show (List.replicate n f.toNat.toUInt8).toArray.size = n
  simp
theorem same_data (n : Nat) (f : Int) : (same n f).data.toList = List.replicate n f.toNat.toUInt8 := rfl
theorem same_at (n : Nat) (f : Int) (h0 : 0 ≤ f) (h1 : f ≤ 255) (k : Nat) (hk : k < (same n f).size) : (((same n f)[k]'hk).toNat : Int) = f := by
  have e : (same n f)[k]'hk = f.toNat.toUInt8 := by
    show (List.replicate n f.toNat.toUInt8).toArray[k]'_ = _
    simp
  rw [e, Lib.toUInt8_toNat (by omega)]
  omega
end Go.Proofs.Qxb6612640a
