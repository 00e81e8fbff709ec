/- ZZNewXMLWriter (7), put (24), start (18), ZZStart (8), ZZWriterBuf (9), ZZWriterSize (10). -/
import Derived.Test.Qxb6612909aBytes
namespace Go.Proofs.Qxb6612909a
open Go.RowKit
set_option linter.unusedVariables false

/-- A writer lies in block g. -/
def WAt (w : World) (g : Nat) (v : Value) (m : Bool) (z : Int) : Prop := w.heap[g]? = some (.cells #[v, .bool m, .int .i64 z] 52 (0, 0))

theorem WAt.buf {w : World} {g : Nat} {v : Value} {m : Bool} {z : Int} (h : WAt w g v m z) : w.cell? ⟨g, 0, none⟩ = some v := by rw [cell_of_row w g 0 _ 52 (0, 0) h]; rfl
theorem WAt.meas {w : World} {g : Nat} {v : Value} {m : Bool} {z : Int} (h : WAt w g v m z) : w.cell? ⟨g, 1, none⟩ = some (.bool m) := by rw [cell_of_row w g 1 _ 52 (0, 0) h]; rfl
theorem WAt.size {w : World} {g : Nat} {v : Value} {m : Bool} {z : Int} (h : WAt w g v m z) : w.cell? ⟨g, 2, none⟩ = some (.int .i64 z) := by rw [cell_of_row w g 2 _ 52 (0, 0) h]; rfl
theorem WAt.free {w : World} {g : Nat} {v : Value} {m : Bool} {z : Int} (h : WAt w g v m z) (j : Nat) : w.frozen? ⟨g, j, none⟩ = false := frozen_of_row w g j _ 52 h
theorem WAt.lt {w : World} {g : Nat} {v : Value} {m : Bool} {z : Int} (h : WAt w g v m z) : g < w.heap.size := (Array.getElem?_eq_some_iff.1 h).1
theorem WAt.setBuf {w : World} {g : Nat} {v : Value} {m : Bool} {z : Int} (h : WAt w g v m z) (u : Value) : WAt (w.setCell ⟨g, 0, none⟩ u) g u m z := heap_setCell_same w g 0 _ 52 u h
theorem WAt.setSize {w : World} {g : Nat} {v : Value} {m : Bool} {z : Int} (h : WAt w g v m z) (y : Int) : WAt (w.setCell ⟨g, 2, none⟩ (.int .i64 y)) g v m y := heap_setCell_same w g 2 _ 52 (.int .i64 y) h
theorem WAt.kept {w w' : World} {g B : Nat} {v : Value} {m : Bool} {z : Int} (h : WAt w g v m z) (hb : Below B w w') (hg : g < B) : WAt w' g v m z := (hb.block g hg).trans h
theorem WAt.grown {w w' : World} {g : Nat} {v : Value} {m : Bool} {z : Int} {row : Option Nat} (h : WAt w g v m z) (hg : w.grownBy w' row) (hne : some g ≠ row) : WAt w' g v m z := (hg.block g h.lt hne).trans h

theorem grownBy_setCell (w : World) (a : Addr) (v : Value) : w.grownBy (w.setCell a v) (some a.block) :=
  ⟨rfl, rfl, rfl, by simp, fun k _ hk => heap_setCell_other w a k v (fun e => hk (by simp [e]))⟩

theorem own_below {w w' : World} {base B e n : Nat} {v : Value} {xs : List Value} (h : w.ownsRow base e 1 v n xs) (hb : Below B w w') (hv : ∀ k, v.ownBlock = some k → k < B) : w'.ownsRow base e 1 v n xs := by
  refine ⟨h.1, ?_⟩
  rcases h.2 with hn | ⟨g, cap, cur, rfl, hbg, hgg, rest⟩
  · exact .inl hn
  · exact .inr ⟨g, cap, cur, rfl, hbg, by rw [hb.block g (hv g rfl)]; exact hgg, rest⟩

/-- A row of bytes is no writer's block. -/
theorem own_ne {w : World} {base g n : Nat} {v u : Value} {xs : List Value} {m : Bool} {z : Int} (h : w.ownsRow base 5 1 v n xs) (hw : WAt w g u m z) : v.ownBlock ≠ some g := by
  intro e
  rcases h.2 with ⟨rfl, _⟩ | ⟨g', cap, cur, rfl, hbg, hgg, rest⟩
  · simp [Value.ownBlock] at e
  · simp [Value.ownBlock] at e
    unfold WAt at hw
    rw [← e, hgg] at hw
    simp at hw

set_option maxHeartbeats 1000000 in
set_option maxRecDepth 100000 in
theorem new_any (a : Option Addr) (n c : Nat) (m : Bool) (z : Int) (w : World) :
    Calls Try.prog 7 #[.slice a n c, .bool m, .int .i64 z] w fun e w' => e = .returned (.pointer (some ⟨w.heap.size, 0, none⟩)) ∧ WAt w' w.heap.size (.slice a n c) m z ∧ Below w.heap.size w w' := by
  go_enter Try.func7, Try.ntmps7
  go_wp2
  go_ret
  exact ⟨rfl, heap_alloc_new w _, (Below.refl _ _).alloc (Nat.le_refl _) _⟩

set_option maxHeartbeats 1000000 in
set_option maxRecDepth 100000 in
theorem buf_any (g : Nat) (a : Option Addr) (n c : Nat) (m : Bool) (z : Int) (w : World) (h : WAt w g (.slice a n c) m z) :
    Calls Try.prog 9 #[.pointer (some ⟨g, 0, none⟩)] w fun e w' => e = .returned (.slice a n c) ∧ w = w' := by
  have c0 := h.buf
  clear h
  go_enter Try.func9, Try.ntmps9
  go_wp2
  go_ret
  exact ⟨rfl, rfl⟩

set_option maxHeartbeats 1000000 in
set_option maxRecDepth 100000 in
theorem size_any (g : Nat) (v : Value) (m : Bool) (z : Int) (w : World) (h : WAt w g v m z) :
    Calls Try.prog 10 #[.pointer (some ⟨g, 0, none⟩)] w fun e w' => e = .returned (.int .i64 z) ∧ w = w' := by
  have c0 := h.size
  clear h
  go_enter Try.func10, Try.ntmps10
  go_wp2
  go_ret
  exact ⟨rfl, rfl⟩

set_option maxHeartbeats 1000000 in
set_option maxRecDepth 100000 in
theorem put_no (g : Nat) (v : Value) (z : Int) (s : ByteArray) (w : World) (h : WAt w g v true z) :
    Calls Try.prog 24 #[.pointer (some ⟨g, 0, none⟩), .string s] w fun e w' => e = .returned (.tuple #[]) ∧ WAt w' g v true (wrap64 (z + s.size)) ∧ w.grownBy w' (some g) := by
  have c1 := h.meas
  have c2 := h.size
  have f2 := h.free 2
  have HR := hid (h.setSize (wrap64 (z + s.size)))
  clear h
  go_enter Try.func24, Try.ntmps24
  go_wp2
  go_end0
  exact ⟨rfl, HR.out, grownBy_setCell _ _ _⟩

set_option maxHeartbeats 1000000 in
set_option maxRecDepth 100000 in
theorem put_yes (B g n : Nat) (v : Value) (z : Int) (s : ByteArray) (xs : List Value) (w : World) (h : WAt w g v false z) (hown : w.ownsRow B 5 1 v n xs) (hB : B ≤ w.heap.size) (hg : B ≤ g) (hn : n + s.size ≤ 140737488355328) :
    Calls Try.prog 24 #[.pointer (some ⟨g, 0, none⟩), .string s] w fun e w' => e = .returned (.tuple #[]) ∧
      ∃ v', WAt w' g v' false (wrap64 (z + s.size)) ∧ w'.ownsRow B 5 1 v' (n + s.size) (xs ++ Lib.strCells s) ∧ Below B w w' := by
  obtain ⟨i5, hi5, hz50, hz51, hz52⟩ := info_parts info5
  have c0 := h.buf
  have c1 := h.meas
  have c2 := h.size
  have f0 := h.free 0
  have f2 := h.free 2
  have hne := own_ne hown h
  have HR := hid (h.setSize (wrap64 (z + s.size)))
  have ho1 := hown.kept (grownBy_setCell w ⟨g, 2, none⟩ (.int .i64 (wrap64 (z + s.size)))) (.inr hne)
  have B1 : Below B w (w.setCell ⟨g, 2, none⟩ (.int .i64 (wrap64 (z + s.size)))) := (Below.refl _ _).setCell (show B ≤ g from hg) _
  have hvs : ∃ a c, v = .slice a n c := by
    rcases hown.2 with ⟨rfl, rfl⟩ | ⟨g', cap, cur, rfl, _⟩
    · exact ⟨_, _, rfl⟩
    · exact ⟨_, _, rfl⟩
  obtain ⟨a, c, rfl⟩ := hvs
  have hvb := hown.lt
  have HVB := hid hvb
  have HNE := hid hne
  clear h hown hne hvb
  go_enter Try.func24, Try.ntmps24
  go_wp2_with (at_builtin; refine Lib.wpList_append_own_string _ rfl _ _ 22 9 rfl B 5 i5 Try.underlying22 Try.underlying9 hi5 hz50 hz51 hz52 _ _ _ rfl ho1 s rfl ?b1 ?b2 ?b3 ?_)
  case b1 => unfold maxLen; omega
  case b2 => exact hn
  case b3 => simpa using hB
  intro v' w1 own1 gr1 _
  have R1 := HR.out.grown gr1 (Ne.symm HNE.out)
  have hvs : ∃ a' c', v' = .slice a' (n + s.size) c' := by
    rcases own1.2 with ⟨h1, h2⟩ | ⟨g', cap, cur, h1, _⟩
    · exact ⟨none, 0, by rw [h1, h2]⟩
    · exact ⟨_, _, h1⟩
  obtain ⟨a', c', hv'⟩ := hvs
  rw [hv'] at own1 ⊢
  have hne1 := own_ne own1 R1
  have d0 := R1.buf
  have e0 := R1.free 0
  have B2 : Below B w w1 := B1.grown gr1 (by simpa using hB) (fun k hk => (HVB.out k hk).1)
  have own2 := hid (own1.kept (grownBy_setCell w1 ⟨g, 0, none⟩ (.slice a' (n + s.size) c')) (.inr hne1))
  have R2 := hid (R1.setBuf (.slice a' (n + s.size) c'))
  have B3 := hid (B2.setCell (p := ⟨g, 0, none⟩) hg (.slice a' (n + s.size) c'))
  clear own1 R1 hv' B1 B2 HR ho1 gr1 hne1 HVB HNE
  go_wp2
  go_end0
  exact ⟨rfl, _, R2.out, own2.out, B3.out⟩

theorem lt_own (l : List UInt8) (s : ByteArray) : Lib.byteCells l ++ Lib.strCells s = Lib.byteCells (l ++ s.data.toList) := by
  rw [Lib.byteCells_append]; rfl

set_option maxHeartbeats 1000000 in
set_option maxRecDepth 100000 in
theorem start18_yes (B g n : Nat) (v : Value) (z : Int) (s : ByteArray) (l : List UInt8) (w : World) (h : WAt w g v false z) (hown : w.ownsRow B 5 1 v n (Lib.byteCells l)) (hB : B ≤ w.heap.size) (hg : B ≤ g) (hn : n + 1 + s.size ≤ 140737488355328) :
    Calls Try.prog 18 #[.pointer (some ⟨g, 0, none⟩), .string s] w fun e w' => e = .returned (.tuple #[]) ∧
      ∃ v', WAt w' g v' false (wrap64 (wrap64 (z + 1) + s.size)) ∧ w'.ownsRow B 5 1 v' (n + 1 + s.size) (Lib.byteCells (l ++ [60] ++ s.data.toList)) ∧ Below B w w' := by
  have K1 := hid (put_yes B g n v z ⟨#[60]⟩ _ w h hown hB hg (by show n + 1 ≤ _; omega))
  clear h hown
  go_enter Try.func18, Try.ntmps18
  go_wp2_with fail
  refine K1.out.mono ?_
  rintro e w1 ⟨rfl, v1, R1, o1, b1⟩
  have o1' : w1.ownsRow B 5 1 v1 (n + 1) (Lib.byteCells (l ++ [60])) := by
    have e1 := lt_own l ⟨#[60]⟩
    rw [e1] at o1
    exact o1
  have R1' : WAt w1 g v1 false (wrap64 (z + 1)) := R1
  have K2 := hid (put_yes B g (n + 1) v1 (wrap64 (z + 1)) s _ w1 R1' o1' (Nat.le_trans hB b1.size) hg hn)
  clear R1 o1 o1' R1' K1
  go_wp2_with fail
  refine K2.out.mono ?_
  rintro e w2 ⟨rfl, v2, R2, o2, b2⟩
  rw [lt_own] at o2
  clear K2
  go_wp2_with fail
  go_end0
  exact ⟨rfl, v2, R2, o2, b1.trans b2⟩

set_option maxHeartbeats 1000000 in
set_option maxRecDepth 100000 in
theorem start18_no (g : Nat) (v : Value) (z : Int) (s : ByteArray) (w : World) (h : WAt w g v true z) :
    Calls Try.prog 18 #[.pointer (some ⟨g, 0, none⟩), .string s] w fun e w' => e = .returned (.tuple #[]) ∧
      WAt w' g v true (wrap64 (wrap64 (z + 1) + s.size)) ∧ w.grownBy w' (some g) := by
  have K1 := hid (put_no g v z ⟨#[60]⟩ w h)
  clear h
  go_enter Try.func18, Try.ntmps18
  go_wp2_with fail
  refine K1.out.mono ?_
  rintro e w1 ⟨rfl, R1, g1⟩
  have R1' : WAt w1 g v true (wrap64 (z + 1)) := R1
  have K2 := hid (put_no g v (wrap64 (z + 1)) s w1 R1')
  clear R1 R1' K1
  go_wp2_with fail
  refine K2.out.mono ?_
  rintro e w2 ⟨rfl, R2, g2⟩
  clear K2
  go_wp2_with fail
  go_end0
  exact ⟨rfl, R2, ⟨g2.os.trans g1.os, g2.tape.trans g1.tape, g2.output.trans g1.output, Nat.le_trans g1.size g2.size, fun i hi hn => (g2.block i (Nat.lt_of_lt_of_le hi g1.size) hn).trans (g1.block i hi hn)⟩⟩

set_option maxHeartbeats 1000000 in
set_option maxRecDepth 100000 in
theorem start_yes (B g n : Nat) (v : Value) (z : Int) (s : ByteArray) (l : List UInt8) (w : World) (h : WAt w g v false z) (hown : w.ownsRow B 5 1 v n (Lib.byteCells l)) (hB : B ≤ w.heap.size) (hg : B ≤ g) (hn : n + 1 + s.size ≤ 140737488355328) :
    Calls Try.prog 8 #[.pointer (some ⟨g, 0, none⟩), .string s] w fun e w' => e = .returned (.tuple #[]) ∧
      ∃ v', WAt w' g v' false (wrap64 (wrap64 (z + 1) + s.size)) ∧ w'.ownsRow B 5 1 v' (n + 1 + s.size) (Lib.byteCells (l ++ [60] ++ s.data.toList)) ∧ Below B w w' := by
  have K1 := hid (start18_yes B g n v z s l w h hown hB hg hn)
  clear h hown
  go_enter Try.func8, Try.ntmps8
  go_wp2_with fail
  refine K1.out.mono ?_
  rintro e w1 ⟨rfl, v1, R1, o1, b1⟩
  clear K1
  go_wp2_with fail
  go_end0
  exact ⟨rfl, v1, R1, o1, b1⟩

set_option maxHeartbeats 1000000 in
set_option maxRecDepth 100000 in
theorem start_no (g : Nat) (v : Value) (z : Int) (s : ByteArray) (w : World) (h : WAt w g v true z) :
    Calls Try.prog 8 #[.pointer (some ⟨g, 0, none⟩), .string s] w fun e w' => e = .returned (.tuple #[]) ∧
      WAt w' g v true (wrap64 (wrap64 (z + 1) + s.size)) ∧ w.grownBy w' (some g) := by
  have K1 := hid (start18_no g v z s w h)
  clear h
  go_enter Try.func8, Try.ntmps8
  go_wp2_with fail
  refine K1.out.mono ?_
  rintro e w1 ⟨rfl, R1, g1⟩
  clear K1
  go_wp2_with fail
  go_end0
  exact ⟨rfl, R1, g1⟩
end Go.Proofs.Qxb6612909a
