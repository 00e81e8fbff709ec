/- toURI (21). -/
import Derived.Test.Qxb6612909aSubT
import Derived.Test.Qxb6612909aSubP
import Derived.Deep.RegionHeld3
namespace Go.Proofs.Qxb6612909a
open Go.RowKit
set_option linter.unusedVariables false

/-- A block of eight cells that can be written. -/
def Res8 (W : World) (b : Nat) : Prop := ∃ old t, W.heap[b]? = some (.cells old t (0, 0)) ∧ old.size = 8

theorem Res8.kept {W W' : World} {b : Nat} (h : Res8 W b) (hb : Below W.heap.size W W') : Res8 W' b := by
  obtain ⟨old, t, h1, h2⟩ := h
  exact ⟨old, t, (hb.block b (Array.getElem?_eq_some_iff.1 h1).1).trans h1, h2⟩

theorem Res8.drew {W : World} {b : Nat} (h : Res8 W b) : Res8 W.drew b := h

theorem Res8.set {W : World} {b : Nat} (h : Res8 W b) (i : Nat) (v : Value) : Res8 (W.setCell ⟨b, i, none⟩ v) b := by
  obtain ⟨old, t, h1, h2⟩ := h
  refine ⟨old.setIfInBounds i v, t, ?_, by simp [h2]⟩
  rw [setCell_eq_setRow W b i old t (0, 0) v h1]
  exact setRow_heap W b old _ t _ h1

theorem Res8.cells {W : World} {b : Nat} (h : Res8 W b) : ∃ z0 z1 z2 z3 z4 z5 z6 z7, W.cell? ⟨b, 0, none⟩ = some z0 ∧ W.cell? ⟨b, 1, none⟩ = some z1 ∧ W.cell? ⟨b, 2, none⟩ = some z2 ∧ W.cell? ⟨b, 3, none⟩ = some z3 ∧ W.cell? ⟨b, 4, none⟩ = some z4 ∧ W.cell? ⟨b, 5, none⟩ = some z5 ∧ W.cell? ⟨b, 6, none⟩ = some z6 ∧ W.cell? ⟨b, 7, none⟩ = some z7 ∧ (∀ i, W.frozen? ⟨b, i, none⟩ = false) := by
  obtain ⟨old, t, h1, h2⟩ := h
  refine ⟨old[0], old[1], old[2], old[3], old[4], old[5], old[6], old[7], ?_, ?_, ?_, ?_, ?_, ?_, ?_, ?_, ?_⟩ <;> simp [World.cell?, World.frozen?, h1, h2]

theorem Fresh.mono {w w' : World} {a : Option Addr} (h : Fresh w' a) (hs : w.heap.size ≤ w'.heap.size) : Fresh w a := fun x e => Nat.le_trans hs (h x e)

theorem PAt.far {w w' : World} {a : Option Addr} {n cap : Nat} {f : Nat → ByteArray} (h : PAt w a n cap f) (hs : w.heap.size ≤ w'.heap.size) (hb : ∀ x, a = some x → w'.heap[x.block]? = w.heap[x.block]?) : PAt w' a n cap f := by
  refine ⟨h.nil, fun h0 => ?_⟩
  obtain ⟨b, off, e, hlt, hc⟩ := h.at' h0
  exact ⟨b, off, e, Nat.lt_of_lt_of_le hlt hs, fun j hj => (World.cell?_of_block (w := w) (a := ⟨b, off + j, none⟩) (hb ⟨b, off, none⟩ e)).trans (hc j hj)⟩

theorem alloc_heap (w : World) (o : Obj) : (w.alloc o).heap[w.heap.size]? = some o := by show (w.heap.push o)[w.heap.size]? = some o; simp

theorem alloc2_heap (w : World) (o o' : Obj) : ((w.alloc o).alloc o').heap[w.heap.size + 1]? = some o' := by
  have h := alloc_heap (w.alloc o) o'
  have hs : (w.alloc o).heap.size = w.heap.size + 1 := by simp [go_sem]
  rwa [hs] at h

/-- What a cell holds, whatever it is. -/
def Zc (W : World) (b i : Nat) : Value := (W.cell? ⟨b, i, none⟩).getD undef

theorem Res8.zc {W : World} {b : Nat} (h : Res8 W b) (i : Nat) (hi : i < 8) : W.cell? ⟨b, i, none⟩ = some (Zc W b i) := by
  obtain ⟨old, t, h1, h2⟩ := h
  simp [Zc, World.cell?, h1, h2, hi]

theorem Res8.fz {W : World} {b : Nat} (h : Res8 W b) (i : Nat) : W.frozen? ⟨b, i, none⟩ = false := by
  obtain ⟨old, t, h1, h2⟩ := h
  simp [World.frozen?, h1]

theorem Res8.lt {W : World} {b : Nat} (h : Res8 W b) : b < W.heap.size := by
  obtain ⟨old, t, h1, h2⟩ := h
  exact (Array.getElem?_eq_some_iff.1 h1).1

/-- What holds at every step of toURI's region: the box at k, the result at k + 1. -/
def S21 (u : U) (k : Nat) (W0 W : World) : Prop := W.cell? ⟨k, 0, none⟩ = some (.string u.sc) ∧ W.cell? ⟨k, 1, none⟩ = some (.string u.us) ∧ W.cell? ⟨k, 2, none⟩ = some (.string u.pw) ∧ W.cell? ⟨k, 3, none⟩ = some (.string u.ho) ∧ W.cell? ⟨k, 4, none⟩ = some (.int .i64 u.po) ∧ W.cell? ⟨k, 5, none⟩ = some (.slice u.a5 u.n5 u.c5) ∧ W.cell? ⟨k, 6, none⟩ = some (.slice u.a6 u.n6 u.c6) ∧ W.cell? ⟨k, 7, none⟩ = some (.string u.op) ∧ Hid (Below (k + 1) W0 W) ∧ Hid (Res8 W (k + 1))

theorem S21.mk {u : U} {k : Nat} {W0 W : World} (h : u.Box W k) (hb : Below (k + 1) W0 W) (hr : Res8 W (k + 1)) : S21 u k W0 W :=
  ⟨h.c0, h.c1, h.c2, h.c3, h.c4, h.c5, h.c6, h.c7, hb, hr⟩

theorem S21.box {u : U} {k : Nat} {W0 W : World} (h : S21 u k W0 W) : u.Box W k := by
  obtain ⟨c0, c1, c2, c3, c4, c5, c6, c7, hb, hr⟩ := h
  exact ⟨World.block_lt_of_cell? W _ c0, c0, c1, c2, c3, c4, c5, c6, c7⟩

theorem S21.bel {u : U} {k : Nat} {W0 W : World} (h : S21 u k W0 W) : Below (k + 1) W0 W := h.2.2.2.2.2.2.2.2.1

theorem S21.res {u : U} {k : Nat} {W0 W : World} (h : S21 u k W0 W) : Res8 W (k + 1) := h.2.2.2.2.2.2.2.2.2

theorem S21.call {u : U} {k : Nat} {W0 W W' : World} (h : S21 u k W0 W) (hb : Below W.heap.size W W') : S21 u k W0 W' :=
  S21.mk (h.box.kept hb h.box.lt) (h.bel.trans (hb.mono (Nat.le_of_lt h.res.lt))) (h.res.kept hb)

theorem S21.set {u : U} {k : Nat} {W0 W : World} (h : S21 u k W0 W) (i : Nat) (v : Value) : S21 u k W0 (W.setCell ⟨k + 1, i, none⟩ v) :=
  have hb : Below (k + 1) W (W.setCell ⟨k + 1, i, none⟩ v) := (Below.refl _ _).setCell (p := ⟨k + 1, i, none⟩) (Nat.le_refl _) _
  S21.mk (h.box.kept hb (Nat.lt_succ_self _)) (h.bel.trans hb) (h.res.set i v)

/-- Eight cells written. -/
@[reducible] def set8 (W : World) (b : Nat) (v0 v1 v2 v3 v4 v5 v6 v7 : Value) : World :=
  (((((((W.setCell ⟨b, 0, none⟩ v0).setCell ⟨b, 1, none⟩ v1).setCell ⟨b, 2, none⟩ v2).setCell ⟨b, 3, none⟩ v3).setCell ⟨b, 4, none⟩ v4).setCell ⟨b, 5, none⟩ v5).setCell ⟨b, 6, none⟩ v6).setCell ⟨b, 7, none⟩ v7

theorem S21.set8 {u : U} {k : Nat} {W0 W : World} (h : S21 u k W0 W) {v0 v1 v2 v3 v4 v5 v6 v7 : Value} : S21 u k W0 (set8 W (k + 1) v0 v1 v2 v3 v4 v5 v6 v7) :=
  (((((((h.set 0 v0).set 1 v1).set 2 v2).set 3 v3).set 4 v4).set 5 v5).set 6 v6).set 7 v7

theorem set8_size (W : World) (b : Nat) (v0 v1 v2 v3 v4 v5 v6 v7 : Value) : (set8 W b v0 v1 v2 v3 v4 v5 v6 v7).heap.size = W.heap.size := by simp [set8, World.setCell]

theorem set8_heap (W : World) (b : Nat) (v0 v1 v2 v3 v4 v5 v6 v7 : Value) (j : Nat) (h : j ≠ b) : (set8 W b v0 v1 v2 v3 v4 v5 v6 v7).heap[j]? = W.heap[j]? := by
  unfold set8
  iterate 8 rw [Below.heap_setCell _ _ _ _ (by exact h)]

theorem setCell_heap {W : World} {b : Nat} {old : Array Value} {t : TypeId} (h : W.heap[b]? = some (.cells old t (0, 0))) (i : Nat) (v : Value) : (W.setCell ⟨b, i, none⟩ v).heap[b]? = some (.cells (old.setIfInBounds i v) t (0, 0)) := by
  rw [setCell_eq_setRow W b i old t (0, 0) v h]
  exact setRow_heap W b old _ t _ h

/-- The block behind eight stores. -/
theorem set8_row {W : World} {b : Nat} (h : Res8 W b) (v0 v1 v2 v3 v4 v5 v6 v7 : Value) : ∃ t, (set8 W b v0 v1 v2 v3 v4 v5 v6 v7).heap[b]? = some (.cells #[v0, v1, v2, v3, v4, v5, v6, v7] t (0, 0)) := by
  obtain ⟨⟨l⟩, t, h1, h2⟩ := h
  refine ⟨t, ?_⟩
  have h3 : l.length = 8 := h2
  match l, h3 with
  | [z0, z1, z2, z3, z4, z5, z6, z7], _ =>
    have := setCell_heap (setCell_heap (setCell_heap (setCell_heap (setCell_heap (setCell_heap (setCell_heap (setCell_heap h1 0 v0) 1 v1) 2 v2) 3 v3) 4 v4) 5 v5) 6 v6) 7 v7
    simp only [List.setIfInBounds_toArray, List.set_cons_zero, List.set_cons_succ] at this
    exact this

set_option maxHeartbeats 2000000 in
set_option maxRecDepth 100000 in
theorem toURI_any (u : U) (w : World) (hf : u.Few) (h : u.At w) :
    Calls Try.prog 21 #[u.val] w fun e w' => ∃ a5 c5 a6 c6, e = .returned ({ u with a5 := a5, c5 := c5, a6 := a6, c6 := c6 } : U).val ∧ ({ u with a5 := a5, c5 := c5, a6 := a6, c6 := c6 } : U).At w' ∧ Fresh w a5 ∧ Fresh w a6 ∧ Below w.heap.size w w' := by
  have HF := hid hf
  have HA := hid h
  clear hf h
  unfold U.val
  go_enter Try.func21, Try.ntmps21
  go_wp2
  generalize hW0 : World.alloc (World.alloc w _) _ = W0
  have B0 : Hid (Below w.heap.size w W0) := by
    subst hW0
    have B1 := (Below.refl w.heap.size w).alloc (Nat.le_refl _) (u.obj 33)
    exact B1.alloc B1.size _
  have HS : Unit → S21 u w.heap.size W0 W0.drew := by
    intro _
    have B := (Below.refl W0.heap.size W0).drew
    refine S21.call (W := W0) ?_ B
    subst hW0
    refine S21.mk ((u.boxed w 33).kept ((Below.refl _ _).alloc (Nat.le_refl _) _) (by simp [go_sem])) (Below.refl _ _) ⟨#[Value.string { data := #[] }, Value.string { data := #[] }, Value.string { data := #[] }, Value.string { data := #[] }, Value.int IntKind.i64 0, Value.slice none 0 0, Value.slice none 0 0, Value.string { data := #[] }], 40, ?_, rfl⟩
    exact alloc2_heap _ _ _
  obtain ⟨k, hk⟩ : ∃ k, k = w.heap.size := ⟨_, rfl⟩
  rw [← hk] at HS ⊢
  clear hW0
  have HK := hid hk
  clear hk
  have P5 : Hid (∀ W, S21 u k W0 W → PAt W u.a5 u.n5 u.c5 u.f5) := fun W hS => (HA.out.kept (B0.out.trans (hS.bel.mono (by have := HK.out; omega)))).p5
  have P6 : Hid (∀ W, S21 u k W0 W → PAt W u.a6 u.n6 u.c6 u.f6) := fun W hS => (HA.out.kept (B0.out.trans (hS.bel.mono (by have := HK.out; omega)))).p6
  go_region_held3 (fun W => W.cell? ⟨k, 0, none⟩ = some (.string u.sc) ∧ W.cell? ⟨k, 1, none⟩ = some (.string u.us) ∧ W.cell? ⟨k, 2, none⟩ = some (.string u.pw) ∧ W.cell? ⟨k, 3, none⟩ = some (.string u.ho) ∧ W.cell? ⟨k, 4, none⟩ = some (.int .i64 u.po) ∧ W.cell? ⟨k, 5, none⟩ = some (.slice u.a5 u.n5 u.c5) ∧ W.cell? ⟨k, 6, none⟩ = some (.slice u.a6 u.n6 u.c6) ∧ W.cell? ⟨k, 7, none⟩ = some (.string u.op) ∧ Hid (Below (k + 1) W0 W) ∧ Hid (Res8 W (k + 1)))
    ((show S21 u k W0 _; first | ((with_reducible refine S21.set8 ?_); assumption) | (with_reducible exact HS ()) | ((with_reducible refine S21.call ?_ b6); assumption) | ((with_reducible refine S21.call ?_ b5); assumption)))
    (first
      | (go_at_call_of 26 (Value.slice u.a5 u.n5 u.c5); refine (toParams_any _ _ _ u.f5 _ HF.out.h5 (P5.out _ ‹_›)).mono ?_; rintro e w1 ⟨a5, c5, rfl, p5, f5, b5⟩)
      | (go_at_call_of 26 (Value.slice u.a6 u.n6 u.c6); refine (toParams_any _ _ _ u.f6 _ HF.out.h6 (P6.out _ ‹_›)).mono ?_; rintro e w2 ⟨a6, c6, rfl, p6, f6, b6⟩)
      | (show Oper.upon _ _ _ _ _ _; have h0 : Res8 w2 (k + 1) := S21.res (u := u) (W0 := W0) ‹_›; have h1 := h0.set 0 (.string u.sc); have h2 := h1.set 1 (.string u.us); have h3 := h2.set 2 (.string u.pw); have h4 := h3.set 3 (.string u.ho); have h5 := h4.set 4 (.int .i64 u.po); have h6 := h5.set 5 (.slice a5 u.n5 c5); have h7 := h6.set 6 (.slice a6 u.n6 c6); simp only [h0.zc 0 (by omega), h0.fz 0, h1.zc 1 (by omega), h1.fz 1, h2.zc 2 (by omega), h2.fz 2, h3.zc 3 (by omega), h3.fz 3, h4.zc 4 (by omega), h4.fz 4, h5.zc 5 (by omega), h5.fz 5, h6.zc 6 (by omega), h6.fz 6, h7.zc 7 (by omega), h7.fz 7, Bool.false_eq_true, if_false, Result.andThen_ok]; clear h0 h1 h2 h3 h4 h5 h6 h7; rw [Oper.upon_skip]))
  have S2 := ((HS ()).call b5).call b6
  have ROW := hid (set8_row S2.res (.string u.sc) (.string u.us) (.string u.pw) (.string u.ho) (.int .i64 u.po) (.slice a5 u.n5 c5) (.slice a6 u.n6 c6) (.string u.op))
  have SZ := set8_size w2 (k + 1) (.string u.sc) (.string u.us) (.string u.pw) (.string u.ho) (.int .i64 u.po) (.slice a5 u.n5 c5) (.slice a6 u.n6 c6) (.string u.op)
  have FAR := hid (set8_heap w2 (k + 1) (.string u.sc) (.string u.us) (.string u.pw) (.string u.ho) (.int .i64 u.po) (.slice a5 u.n5 c5) (.slice a6 u.n6 c6) (.string u.op))
  have B9 := hid (S21.bel (S2.set8 (v0 := (.string u.sc)) (v1 := (.string u.us)) (v2 := (.string u.pw)) (v3 := (.string u.ho)) (v4 := (.int .i64 u.po)) (v5 := (.slice a5 u.n5 c5)) (v6 := (.slice a6 u.n6 c6)) (v7 := (.string u.op))))
  have K0 := (HS ()).res.lt
  have P5' := p5.kept b6
  have SS := hid (And.intro SZ (And.intro K0 (And.intro b5.size b6.size)))
  clear SZ K0 S2 HS P5 P6
  generalize hw9 : World.setCell (World.setCell (World.setCell (World.setCell (World.setCell (World.setCell (World.setCell (World.setCell w2 _ _) _ _) _ _) _ _) _ _) _ _) _ _) _ _ = w9
  unfold set8 at ROW SS FAR B9
  rw [hw9] at ROW SS FAR B9
  clear hw9
  obtain ⟨t9, r9⟩ := ROW.out
  clear ROW
  rename_i hH
  clear hH
  have c0 : w9.cell? ⟨k + 1, 0, none⟩ = some (.string u.sc) := by simp [World.cell?, r9]
  have c1 : w9.cell? ⟨k + 1, 1, none⟩ = some (.string u.us) := by simp [World.cell?, r9]
  have c2 : w9.cell? ⟨k + 1, 2, none⟩ = some (.string u.pw) := by simp [World.cell?, r9]
  have c3 : w9.cell? ⟨k + 1, 3, none⟩ = some (.string u.ho) := by simp [World.cell?, r9]
  have c4 : w9.cell? ⟨k + 1, 4, none⟩ = some (.int .i64 u.po) := by simp [World.cell?, r9]
  have c5' : w9.cell? ⟨k + 1, 5, none⟩ = some (.slice a5 u.n5 c5) := by simp [World.cell?, r9]
  have c6' : w9.cell? ⟨k + 1, 6, none⟩ = some (.slice a6 u.n6 c6) := by simp [World.cell?, r9]
  have c7 : w9.cell? ⟨k + 1, 7, none⟩ = some (.string u.op) := by simp [World.cell?, r9]
  go_wp2
  obtain ⟨s1, s2, s3, s4⟩ := SS.out
  have hk := HK.out
  have q5 : PAt w9 a5 u.n5 c5 u.f5 := P5'.far (by omega) (fun x e => FAR.out _ (by have := f5 x e; omega))
  have q6 : PAt w9 a6 u.n6 c6 u.f6 := p6.far (by omega) (fun x e => FAR.out _ (by have := f6 x e; omega))
  exact bodyPost_ret (v := .agg #[.string u.sc, .string u.us, .string u.pw, .string u.ho, .int .i64 u.po, .slice a5 u.n5 c5, .slice a6 u.n6 c6, .string u.op]) (by simp [results, Try.results21, go_sem, c0, c1, c2, c3, c4, c5', c6', c7]) rfl
    ⟨a5, c5, a6, c6, rfl, ⟨q5, q6⟩, f5.mono (by omega), f6.mono (by omega), B0.out.trans (B9.out.mono (by omega))⟩
end Go.Proofs.Qxb6612909a
