/- nameOf (43), name (36), ZZname (20): the name that lies at its place reads back whole. -/
import Derived.Test.Qxb6612640aUv
import Derived.Deep.QuietTactic
import Derived.BigQuiet
namespace Go.Proofs.Qxb6612640a
open Go.RowKit

theorem uv_any (g o n c x : Nat) (w : World) (hx : x < 2097152) (hn : (Lib.uvarint x).length ≤ n) (hm : n ≤ 9223372036854775807)
    (hc : ∀ j u, (Lib.byteCells (Lib.uvarint x))[j]? = some u → w.cell? ⟨g, o + j, none⟩ = some u) :
    Calls Try.prog 48 #[.slice (some ⟨g, o, none⟩) n c] w fun e w' => e = .returned (.tuple #[.int .u64 x, .int .i64 ((Lib.uvarint x).length : Nat)]) ∧ w' = w := by
  by_cases h1 : x < 128
  · have e := Lib.uvarint_small h1
    rw [e] at hn hc ⊢
    refine uv1 g o n c x w h1 (by simpa using hn) hm (hc 0 _ ?_)
    simp [Lib.byteCells, Lib.toUInt8_toNat (show x < 256 by omega)]
  · by_cases h2 : x < 16384
    · have e := Lib.uvarint_big (show 128 ≤ x by omega)
      rw [Lib.uvarint_small (show x / 128 < 128 by omega)] at e
      rw [e] at hn hc ⊢
      refine uv2 g o n c x w (by omega) h2 (by simpa using hn) hm (hc 0 _ ?_) (hc 1 _ ?_)
      · simp only [Lib.byteCells, List.map_cons, List.map_nil, List.getElem?_cons_zero, Lib.toUInt8_toNat (show x % 128 + 128 < 256 by omega)]
      · simp only [Lib.byteCells, List.map_cons, List.map_nil, List.getElem?_cons_zero, List.getElem?_cons_succ, Lib.toUInt8_toNat (show x / 128 < 256 by omega)]
    · have e := Lib.uvarint_big (show 128 ≤ x by omega)
      rw [Lib.uvarint_big (show 128 ≤ x / 128 by omega), Lib.uvarint_small (show x / 128 / 128 < 128 by omega), Nat.div_div_eq_div_mul] at e
      rw [e] at hn hc ⊢
      refine uv3 g o n c x w (by omega) hx (by simpa using hn) hm (hc 0 _ ?_) (hc 1 _ ?_) (hc 2 _ ?_)
      · simp only [Lib.byteCells, List.map_cons, List.map_nil, List.getElem?_cons_zero, Lib.toUInt8_toNat (show x % 128 + 128 < 256 by omega)]
      · simp only [Lib.byteCells, List.map_cons, List.map_nil, List.getElem?_cons_zero, List.getElem?_cons_succ, Lib.toUInt8_toNat (show x / 128 % 128 + 128 < 256 by omega)]
      · simp only [Lib.byteCells, List.map_cons, List.map_nil, List.getElem?_cons_zero, List.getElem?_cons_succ, Lib.toUInt8_toNat (show x / (128 * 128) < 256 by omega)]

theorem ret_slice {a : Option Addr} {l l' c : Nat} (h : l = l') : Ending.returned (.slice a l c) = .returned (.slice a l' c) := by rw [h]

set_option maxHeartbeats 1000000 in
set_option maxRecDepth 100000 in
theorem nameOf_any (A C g n cap p k x : Nat) (w : World) (hA : w.cell? ⟨A, 2, none⟩ = some (.slice (some ⟨g, 0, none⟩) n cap)) (hC : w.cell? ⟨C, 1, none⟩ = some (.int .i64 p))
    (hfit : p + k + x ≤ n) (hn : n ≤ cap) (hcap : p + k < cap) (hm : cap ≤ 4611686018427387904)
    (hu : ∀ q, Calls Try.prog 48 #[.slice (some ⟨g, p, none⟩) (n - p) (cap - p)] (w.drewN q) fun e w' => e = .returned (.tuple #[.int .u64 x, .int .i64 k]) ∧ w' = w.drewN q) :
    Calls Try.prog 43 #[.pointer (some ⟨A, 0, none⟩), .pointer (some ⟨C, 0, none⟩)] w fun e w' => e = .returned (.slice (some ⟨g, p + k, none⟩) x (cap - (p + k))) ∧ ∃ m, w' = w.drewN m := by
  have HU := hid hu
  clear hu
  go_enter Try.func43, Try.ntmps43
  go_wp2
  go_quiet ((go_at_call 48; exact Calls.quiet_of_same (HU.out _)))
  go_wp2
  go_ret
  exact ⟨ret_slice (by omega), _, rfl⟩

set_option maxHeartbeats 1000000 in
set_option maxRecDepth 100000 in
theorem name_any (A C g n cap p k x : Nat) (s : ByteArray) (w : World) (hA : w.cell? ⟨A, 2, none⟩ = some (.slice (some ⟨g, 0, none⟩) n cap)) (hC : w.cell? ⟨C, 1, none⟩ = some (.int .i64 p))
    (hfit : p + k + x ≤ n) (hn : n ≤ cap) (hcap : p + k < cap) (hm : cap ≤ 4611686018427387904)
    (hu : ∀ q, Calls Try.prog 48 #[.slice (some ⟨g, p, none⟩) (n - p) (cap - p)] (w.drewN q) fun e w' => e = .returned (.tuple #[.int .u64 x, .int .i64 k]) ∧ w' = w.drewN q)
    (hv : ∀ q, (convert 43 9 (.slice (some ⟨g, p + k, none⟩) x (cap - (p + k)))).run Try.prog (w.drewN q) = .ok (.string s) (w.drewN q)) :
    Calls Try.prog 36 #[.pointer (some ⟨A, 0, none⟩), .pointer (some ⟨C, 0, none⟩)] w fun e w' => e = .returned (.string s) ∧ ∃ m, w' = w.drewN m := by
  have HN := hid (nameOf_any A C g n cap p k x w hA hC hfit hn hcap hm hu)
  clear hu hA hC hfit hn hcap hm
  go_enter Try.func36, Try.ntmps36
  go_wp2_with (go_at_call 43; refine HN.out.mono ?_; rintro e w' ⟨rfl, m, rfl⟩)
  go_ret
  exact ⟨rfl, _, rfl⟩

theorem below_drewN {B : Nat} {w w' : World} (h : Below B w w') (q : Nat) : Below B w (w'.drewN q) := ⟨h.os, h.tape, h.output, h.size, h.block⟩

theorem bytes_len (s : ByteArray) : s.data.toList.length = s.size := Array.length_toList
theorem bytes_back (s : ByteArray) : (⟨s.data.toList.toArray⟩ : ByteArray) = s := by cases s; simp
theorem byte_at (s : ByteArray) (j : Nat) (hj : j < s.data.toList.length) : (Lib.byteCells s.data.toList)[j]? = some (.int .u8 (s.data.toList[j].toNat : Int)) := by
  rw [Lib.byteCells, List.getElem?_map, List.getElem?_eq_getElem hj]; rfl

set_option maxHeartbeats 1000000 in
set_option maxRecDepth 100000 in
theorem zzname_any (base g n cap p : Nat) (s : ByteArray) (xs : List Value) (w : World) (hs : s.size < 2097152) (hown : w.ownsRow base 5 1 (.slice (some ⟨g, 0, none⟩) n cap) n xs)
    (hcap : p + (Lib.uvarint s.size).length < cap) (hm : cap ≤ 4611686018427387904) (hfit : p + (Lib.uvarint s.size).length + s.size ≤ n)
    (hxs : ∀ j u, (Lib.byteCells (Lib.uvarint s.size ++ s.data.toList))[j]? = some u → xs[p + j]? = some u) :
    Calls Try.prog 20 #[.slice (some ⟨g, 0, none⟩) n cap, .int .i64 p] w fun e w' => e = .returned (.string s) ∧ Below w.heap.size w w' := by
  have hg : g < w.heap.size := (hown.lt g rfl).2
  have hnc : n ≤ cap := by
    rcases hown.2 with ⟨h, _⟩ | ⟨g', cap', cur, h, _, _, hnc, _⟩
    · simp at h
    · simp only [Value.slice.injEq] at h; omega
  obtain ⟨W, hW⟩ : ∃ W, W = (w.alloc (.cells #[.slice none 0 0, .int .i64 0, .slice (some ⟨g, 0, none⟩) n cap, .slice none 0 0, .int .u64 0] 87)).alloc (.cells #[.slice none 0 0, .int .i64 p, .pointer none] 73) := ⟨_, rfl⟩
  have hb : Below w.heap.size w W := by subst hW; exact ((Below.refl _ _).alloc (Nat.le_refl _) _).alloc (by simp) _
  have hA : W.cell? ⟨w.heap.size, 2, none⟩ = some (.slice (some ⟨g, 0, none⟩) n cap) := by subst hW; simp
  have hC : W.cell? ⟨w.heap.size + 1, 1, none⟩ = some (.int .i64 p) := by subst hW; simp
  have hcell : ∀ q j u, (Lib.byteCells (Lib.uvarint s.size ++ s.data.toList))[j]? = some u → (W.drewN q).cell? ⟨g, p + j, none⟩ = some u := by
    intro q j u hu
    have hjl : j < (Lib.uvarint s.size).length + s.size := by
      have := (List.getElem?_eq_some_iff.1 hu).1
      simpa [Lib.byteCells] using this
    rw [(below_drewN hb q).cell (show g < w.heap.size from hg), hown.cellAt (p + j) (by omega)]
    exact hxs j u hu
  have hu : ∀ q, Calls Try.prog 48 #[.slice (some ⟨g, p, none⟩) (n - p) (cap - p)] (W.drewN q) fun e w' => e = .returned (.tuple #[.int .u64 s.size, .int .i64 (Lib.uvarint s.size).length]) ∧ w' = W.drewN q := by
    intro q
    refine uv_any g p (n - p) (cap - p) s.size _ hs (by omega) (by omega) fun j u hj => hcell q j u ?_
    rw [Lib.byteCells_append, List.getElem?_append_left (List.getElem?_eq_some_iff.1 hj).1]
    exact hj
  have hv : ∀ q, (convert 43 9 (.slice (some ⟨g, p + (Lib.uvarint s.size).length, none⟩) s.size (cap - (p + (Lib.uvarint s.size).length)))).run Try.prog (W.drewN q) = .ok (.string s) (W.drewN q) := by
    intro q
    have := run_convert_bytes_back (P := Try.prog) (W.drewN q) 43 9 5 ⟨g, p + (Lib.uvarint s.size).length, none⟩ (cap - (p + (Lib.uvarint s.size).length)) s.data.toList Try.underlying43 Try.underlying5 Try.underlying9 (by
      intro j hj
      rw [Addr.add_lit, Nat.add_assoc]
      refine hcell q _ _ ?_
      rw [Lib.byteCells_append, List.getElem?_append_right (by simp [Lib.byteCells])]
      rw [show (Lib.uvarint s.size).length + j - (Lib.byteCells (Lib.uvarint s.size)).length = j by simp [Lib.byteCells]]
      exact byte_at s j hj)
    rw [bytes_len, bytes_back] at this
    exact this
  have HN := hid (name_any _ _ g n cap p _ _ s W hA hC hfit hnc hcap hm hu hv)
  clear hA hC hcell hu hv hxs hcap hm hfit hs hown
  go_enter Try.func20, Try.ntmps20
  go_wp2_with (go_at_call 36; rw [← hW]; refine HN.out.mono ?_; rintro e w' ⟨rfl, m, rfl⟩)
  go_ret
  exact ⟨rfl, below_drewN (hW ▸ hb) m⟩
end Go.Proofs.Qxb6612640a
