/- FnNameReadsEachNameLaidInOrder: what is plain, and the bound's function (18). -/
import Derived.Test.Qxb6612640aName
import Derived.Test.Qxb6612640aPut
import Derived.Room.AppendFits
namespace Go.Proofs.Qxb6612640a
open Go.RowKit
set_option linter.unusedVariables false

/-- What the bound's function says: false; or true, and no string is longer than 1<<20. -/
def Said18 (ss : List ByteArray) (len : Nat) (e : Ending) : Prop := e = .returned (.bool false) ∨ (e = .returned (.bool true) ∧ ∀ k, k < len → (ss.getD k ByteArray.empty).size ≤ 1048576)

set_option maxHeartbeats 1000000 in
set_option maxRecDepth 100000 in
theorem zz18 (b off len cap : Nat) (ss : List ByteArray) (w : World) (hl : len ≤ ss.length) (hm : len ≤ 9223372036854775807)
    (hc : ∀ k, k < len → w.cell? ⟨b, off + k, none⟩ = some (.string (ss.getD k ByteArray.empty))) :
    Calls Try.prog 18 #[.slice (some ⟨b, off, none⟩) len cap] w fun e w' => Said18 ss len e ∧ w = w' := by
  have HC := hid hc
  clear hc
  go_enter Try.func18, Try.ntmps18
  by_cases h20 : (1048576 : Int) < len
  · go_wp2
    go_ret
    exact ⟨.inl rfl, rfl⟩
  · go_wp2
    go_loop [3, 4] (fun t i => ∃ (k m : Nat), k ≤ len ∧ m ≤ 1048576 ∧ i = .int .i64 k ∧ t = .int .i64 m ∧ Hid (∀ j, j < k → (ss.getD j ByteArray.empty).size ≤ 1048576)) (fun _ i => len - (intOf i).toNat)
    case atStart => exact ⟨0, len, by omega, by omega, rfl, rfl, hid (fun j hj => by omega)⟩
    case round =>
      obtain ⟨k, m, hk, hm, rfl, rfl, HS⟩ := hrel
      by_cases hlt : k < len
      · have g := HC.out k hlt
        have H1 : Hid ((ss.getD k ByteArray.empty).size ≤ 1048576 → ∀ j, j < k + 1 → (ss.getD j ByteArray.empty).size ≤ 1048576) := by
          intro h j hj
          by_cases e : j = k
          · subst e; exact h
          · exact HS.out j (by omega)
        obtain ⟨s, hs⟩ : ∃ s, s = ss.getD k ByteArray.empty := ⟨_, rfl⟩
        rw [← hs] at g H1
        clear HC HS hs
        go_wp2
        · go_ret
          exact ⟨.inl rfl, rfl⟩
        · go_ret
          exact ⟨.inl rfl, rfl⟩
        · go_round
          case rel => exact ⟨k + 1, m + s.size, by omega, by omega, by go_num, by go_num, hid (H1.out (by omega))⟩
          case measure => simp [intOf]; omega
      · go_wp2
        go_ret
        exact ⟨.inr ⟨rfl, fun j hj => HS.out j (by omega)⟩, rfl⟩

/-! ### Names laid one behind another, each behind its length -/
def enc : List ByteArray → List UInt8
  | [] => []
  | s :: r => (Lib.uvarint s.size ++ s.data.toList) ++ enc r

def tot : List ByteArray → Nat
  | [] => 0
  | s :: r => s.size + tot r

theorem enc_append (l m : List ByteArray) : enc (l ++ m) = enc l ++ enc m := by
  induction l with
  | nil => rfl
  | cons s r ih => rw [List.cons_append, enc, enc, ih]; simp only [List.append_assoc]

theorem tot_append (l m : List ByteArray) : tot (l ++ m) = tot l + tot m := by
  induction l with
  | nil => simp [tot]
  | cons s r ih => rw [List.cons_append, tot, tot, ih]; omega

theorem take_snoc' (ss : List ByteArray) (k : Nat) (h : k < ss.length) : ss.take (k + 1) = ss.take k ++ [ss.getD k ByteArray.empty] := by
  rw [List.take_succ_eq_append_getElem h]
  simp [List.getD, List.getElem?_eq_getElem h]

theorem enc_succ (ss : List ByteArray) (k : Nat) (h : k < ss.length) : enc (ss.take (k + 1)) = enc (ss.take k) ++ (Lib.uvarint (ss.getD k ByteArray.empty).size ++ (ss.getD k ByteArray.empty).data.toList) := by
  rw [take_snoc' ss k h, enc_append, enc, enc, List.append_nil]

theorem tot_succ (ss : List ByteArray) (k : Nat) (h : k < ss.length) : tot (ss.take (k + 1)) = tot (ss.take k) + (ss.getD k ByteArray.empty).size := by
  rw [take_snoc' ss k h, tot_append, tot, tot, Nat.add_zero]

theorem tot_mono (ss : List ByteArray) (j k : Nat) (h : j ≤ k) : tot (ss.take j) ≤ tot (ss.take k) := by
  have e : ss.take k = ss.take j ++ (ss.take k).drop j := by
    conv => lhs; rw [← List.take_append_drop j (ss.take k)]
    rw [List.take_take, Nat.min_eq_left h]
  rw [e, tot_append]; omega

theorem size_le_tot (ss : List ByteArray) (k n : Nat) (h : k < ss.length) (hn : k < n) : (ss.getD k ByteArray.empty).size ≤ tot (ss.take n) := by
  have h1 := tot_succ ss k h
  have h2 := tot_mono ss (k + 1) n (by omega)
  omega

theorem enc_len (ss : List ByteArray) (n : Nat) (hn : n ≤ ss.length) (ht : tot (ss.take n) ≤ 1048576) : ∀ k, k ≤ n → (enc (ss.take k)).length ≤ tot (ss.take k) + 3 * k
  | 0, _ => by simp [enc]
  | k + 1, hk => by
    have ih := enc_len ss n hn ht k (by omega)
    have hs := size_le_tot ss k n (by omega) (by omega)
    have hu := uvarint_len3 (ss.getD k ByteArray.empty).size (by omega)
    rw [enc_succ ss k (by omega), tot_succ ss k (by omega), List.length_append, List.length_append, bytes_len]
    omega

theorem enc_split (ss : List ByteArray) (k n : Nat) (hn : n ≤ ss.length) (hk : k < n) : ∃ r, enc (ss.take n) = enc (ss.take (k + 1)) ++ r := by
  refine ⟨enc ((ss.take n).drop (k + 1)), ?_⟩
  rw [← enc_append]
  congr 1
  conv => lhs; rw [← List.take_append_drop (k + 1) (ss.take n)]
  rw [List.take_take, Nat.min_eq_left (by omega)]

theorem enc_at (ss : List ByteArray) (k n : Nat) (hn : n ≤ ss.length) (hk : k < n) (j : Nat) (u : Value)
    (h : (Lib.byteCells (Lib.uvarint (ss.getD k ByteArray.empty).size ++ (ss.getD k ByteArray.empty).data.toList))[j]? = some u) : (Lib.byteCells (enc (ss.take n)))[(enc (ss.take k)).length + j]? = some u := by
  obtain ⟨r, hr⟩ := enc_split ss k n hn hk
  rw [hr, enc_succ ss k (by omega), Lib.byteCells_append, Lib.byteCells_append (enc (ss.take k))]
  have hj := (List.getElem?_eq_some_iff.1 h).1
  have hl : (Lib.byteCells (enc (ss.take k))).length = (enc (ss.take k)).length := by simp [Lib.byteCells]
  rw [List.getElem?_append_left (by rw [List.length_append, hl]; omega), List.getElem?_append_right (by omega), hl, Nat.add_sub_cancel_left]
  exact h

theorem enc_take (ss : List ByteArray) (k n : Nat) (hn : n ≤ ss.length) (hk : k < n) : (Lib.byteCells (enc (ss.take n))).take (enc (ss.take (k + 1))).length = Lib.byteCells (enc (ss.take (k + 1))) := by
  obtain ⟨r, hr⟩ := enc_split ss k n hn hk
  rw [hr, Lib.byteCells_append]
  rw [List.take_left' (by simp [Lib.byteCells])]

/-- A row's head: fewer elements of the same row. -/
theorem owns_take {w : World} {base : Nat} {e : TypeId} {g n cap m : Nat} {xs : List Value} (h : w.ownsRow base e 1 (.slice (some ⟨g, 0, none⟩) n cap) n xs) (hm : m ≤ n) :
    w.ownsRow base e 1 (.slice (some ⟨g, 0, none⟩) m cap) m (xs.take m) := by
  have h1 := h.1
  rcases h.2 with ⟨h', _⟩ | ⟨g', cap', cur, h', hb, hg, hnc, hcm, hcs, htake⟩
  · simp at h'
  · simp only [Value.slice.injEq, Option.some.injEq, Addr.mk.injEq, and_true, true_and] at h'
    obtain ⟨rfl, rfl⟩ := h'
    refine ⟨by simp; omega, .inr ⟨g, cap, cur, rfl, hb, hg, by omega, hcm, hcs, ?_⟩⟩
    rw [← htake, List.take_take]
    congr 1
    omega
end Go.Proofs.Qxb6612640a
