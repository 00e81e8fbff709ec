/- newConfig (14). -/
import Derived.Test.Qxb6612909aSubV
import Derived.Laws.Rows
import Derived.Laws.Tables
namespace Go.Proofs.Qxb6612909a
open Go.RowKit
set_option linter.unusedVariables false

/-- A block of n cells that can be written. -/
def ResN (W : World) (b n : Nat) : Prop := ∃ old t, W.heap[b]? = some (.cells old t (0, 0)) ∧ old.size = n

theorem ResN.lt {W : World} {b n : Nat} (h : ResN W b n) : b < W.heap.size := by
  obtain ⟨old, t, h1, h2⟩ := h
  exact (Array.getElem?_eq_some_iff.1 h1).1

theorem ResN.new (W : World) (cs : Array Value) (t : TypeId) : ResN (W.alloc (.cells cs t)) W.heap.size cs.size := ⟨cs, t, alloc_heap W _, rfl⟩

theorem ResN.kept {W W' : World} {b n : Nat} (h : ResN W b n) (hb : Below W.heap.size W W') : ResN W' b n := by
  obtain ⟨old, t, h1, h2⟩ := h
  exact ⟨old, t, (hb.block b (Array.getElem?_eq_some_iff.1 h1).1).trans h1, h2⟩

theorem setRow_far (W : World) (g : Nat) (cs : Array Value) (j : Nat) (h : j ≠ g) : (W.setRow g cs).heap[j]? = W.heap[j]? := by
  simp [World.setRow, Array.getElem?_modify, Ne.symm h]

theorem setRow_size (W : World) (g : Nat) (cs : Array Value) : (W.setRow g cs).heap.size = W.heap.size := by simp [World.setRow]

theorem setRow_below (W : World) (g : Nat) (cs : Array Value) : Below g W (W.setRow g cs) :=
  ⟨rfl, rfl, rfl, Nat.le_of_eq (setRow_size W g cs).symm, fun k hk => setRow_far W g cs k (Nat.ne_of_lt hk)⟩

/-- A URI with the same parts; its slices lie elsewhere. -/
structure Like (u u' : U) : Prop where
  sc : u'.sc = u.sc
  us : u'.us = u.us
  pw : u'.pw = u.pw
  ho : u'.ho = u.ho
  op : u'.op = u.op
  po : u'.po = u.po
  n5 : u'.n5 = u.n5
  n6 : u'.n6 = u.n6
  f5 : u'.f5 = u.f5
  f6 : u'.f6 = u.f6

structure FreshU (w : World) (u : U) : Prop where
  h5 : Fresh w u.a5
  h6 : Fresh w u.a6

theorem U.At.far {u : U} {w w' : World} {b : Nat} (h : u.At w) (hs : w.heap.size ≤ w'.heap.size) (hf : ∀ j, j ≠ b → w'.heap[j]? = w.heap[j]?) {w0 : World} (hw : FreshU w0 u) (hb : b < w0.heap.size) : u.At w' :=
  ⟨h.p5.far hs (fun x e => hf _ (by have := hw.h5 x e; omega)), h.p6.far hs (fun x e => hf _ (by have := hw.h6 x e; omega))⟩

theorem toURI_out (u : U) (w : World) (hf : u.Few) (h : u.At w) :
    Calls Try.prog 21 #[.agg #[.string u.sc, .string u.us, .string u.pw, .string u.ho, .int .i64 u.po, .slice u.a5 u.n5 u.c5, .slice u.a6 u.n6 u.c6, .string u.op]] w fun e w' => ∃ u' : U, e = .returned (.agg #[.string u'.sc, .string u'.us, .string u'.pw, .string u'.ho, .int .i64 u'.po, .slice u'.a5 u'.n5 u'.c5, .slice u'.a6 u'.n6 u'.c6, .string u'.op]) ∧ Hid (Like u u' ∧ u'.At w' ∧ FreshU w u') ∧ Below w.heap.size w w' := by
  refine (toURI_any u w hf h).mono ?_
  rintro e w' ⟨a5, c5, a6, c6, rfl, hA, g5, g6, hb⟩
  exact ⟨{ u with a5 := a5, c5 := c5, a6 := a6, c6 := c6 }, rfl, ⟨⟨rfl, rfl, rfl, rfl, rfl, rfl, rfl, rfl, rfl, rfl⟩, hA, ⟨g5, g6⟩⟩, hb⟩

/-- What holds at every step of newConfig's region. -/
def S14 (u v x : U) (k : Nat) (W0 W : World) : Prop := W.cell? ⟨k, 0, none⟩ = some (.string u.sc) ∧ W.cell? ⟨k, 1, none⟩ = some (.string u.us) ∧ W.cell? ⟨k, 2, none⟩ = some (.string u.pw) ∧ W.cell? ⟨k, 3, none⟩ = some (.string u.ho) ∧ W.cell? ⟨k, 4, none⟩ = some (.int .i64 u.po) ∧ W.cell? ⟨k, 5, none⟩ = some (.slice u.a5 u.n5 u.c5) ∧ W.cell? ⟨k, 6, none⟩ = some (.slice u.a6 u.n6 u.c6) ∧ W.cell? ⟨k, 7, none⟩ = some (.string u.op) ∧ W.cell? ⟨k + 1, 0, none⟩ = some (.string v.sc) ∧ W.cell? ⟨k + 1, 1, none⟩ = some (.string v.us) ∧ W.cell? ⟨k + 1, 2, none⟩ = some (.string v.pw) ∧ W.cell? ⟨k + 1, 3, none⟩ = some (.string v.ho) ∧ W.cell? ⟨k + 1, 4, none⟩ = some (.int .i64 v.po) ∧ W.cell? ⟨k + 1, 5, none⟩ = some (.slice v.a5 v.n5 v.c5) ∧ W.cell? ⟨k + 1, 6, none⟩ = some (.slice v.a6 v.n6 v.c6) ∧ W.cell? ⟨k + 1, 7, none⟩ = some (.string v.op) ∧ W.cell? ⟨k + 1 + 1, 0, none⟩ = some (.string x.sc) ∧ W.cell? ⟨k + 1 + 1, 1, none⟩ = some (.string x.us) ∧ W.cell? ⟨k + 1 + 1, 2, none⟩ = some (.string x.pw) ∧ W.cell? ⟨k + 1 + 1, 3, none⟩ = some (.string x.ho) ∧ W.cell? ⟨k + 1 + 1, 4, none⟩ = some (.int .i64 x.po) ∧ W.cell? ⟨k + 1 + 1, 5, none⟩ = some (.slice x.a5 x.n5 x.c5) ∧ W.cell? ⟨k + 1 + 1, 6, none⟩ = some (.slice x.a6 x.n6 x.c6) ∧ W.cell? ⟨k + 1 + 1, 7, none⟩ = some (.string x.op) ∧ Hid (Below (k + 3) W0 W) ∧ Hid (ResN W (k + 1 + 1 + 1) 29)

theorem S14.mk {u v x : U} {k : Nat} {W0 W : World} (h : Boxes3 u v x k W) (hb : Below (k + 3) W0 W) (hr : ResN W (k + 1 + 1 + 1) 29) : S14 u v x k W0 W :=
  ⟨h.b1.c0, h.b1.c1, h.b1.c2, h.b1.c3, h.b1.c4, h.b1.c5, h.b1.c6, h.b1.c7, h.b2.c0, h.b2.c1, h.b2.c2, h.b2.c3, h.b2.c4, h.b2.c5, h.b2.c6, h.b2.c7, h.b3.c0, h.b3.c1, h.b3.c2, h.b3.c3, h.b3.c4, h.b3.c5, h.b3.c6, h.b3.c7, hb, hr⟩

theorem S14.parts {u v x : U} {k : Nat} {W0 W : World} (h : S14 u v x k W0 W) : Boxes3 u v x k W ∧ Below (k + 3) W0 W ∧ ResN W (k + 1 + 1 + 1) 29 := by
  obtain ⟨c0, c1, c2, c3, c4, c5, c6, c7, d0, d1, d2, d3, d4, d5, d6, d7, e0, e1, e2, e3, e4, e5, e6, e7, hb, hr⟩ := h
  exact ⟨⟨⟨World.block_lt_of_cell? W _ c0, c0, c1, c2, c3, c4, c5, c6, c7⟩, ⟨World.block_lt_of_cell? W _ d0, d0, d1, d2, d3, d4, d5, d6, d7⟩, ⟨World.block_lt_of_cell? W _ e0, e0, e1, e2, e3, e4, e5, e6, e7⟩⟩, hb, hr⟩

theorem S14.call {u v x : U} {k : Nat} {W0 W W' : World} (h : S14 u v x k W0 W) (hb : Below W.heap.size W W') : S14 u v x k W0 W' := by
  obtain ⟨h1, h2, h3⟩ := h.parts
  have := h3.lt
  exact S14.mk (h1.kept hb (by omega)) (h2.trans (hb.mono (by omega))) (h3.kept hb)

theorem S14.row {u v x : U} {k : Nat} {W0 W : World} (h : S14 u v x k W0 W) {cs : Array Value} (hc : cs.size = 29) : S14 u v x k W0 (W.setRow (k + 1 + 1 + 1) cs) := by
  obtain ⟨h1, h2, h3⟩ := h.parts
  have hb := setRow_below W (k + 1 + 1 + 1) cs
  obtain ⟨old, t, r1, r2⟩ := h3
  exact S14.mk (h1.kept hb (by omega)) (h2.trans hb) ⟨cs, t, setRow_heap W (k + 1 + 1 + 1) old cs t _ r1, hc⟩

theorem info44 : (Try.prog.info? 44).map (·.size) = some 29 := by kernel_rfl

/-- The cells of a SubscriberConfig. -/
def cfg (u v x : U) (ex : Int) (s p : ByteArray) : Array Value := #[.string u.sc, .string u.us, .string u.pw, .string u.ho, .int .i64 u.po, .slice u.a5 u.n5 u.c5, .slice u.a6 u.n6 u.c6, .string u.op, .string v.sc, .string v.us, .string v.pw, .string v.ho, .int .i64 v.po, .slice v.a5 v.n5 v.c5, .slice v.a6 v.n6 v.c6, .string v.op, .string x.sc, .string x.us, .string x.pw, .string x.ho, .int .i64 x.po, .slice x.a5 x.n5 x.c5, .slice x.a6 x.n6 x.c6, .string x.op, .int .u32 ex, .string s, .string p, .nilFunc, .nilFunc]

theorem cfg_store {W : World} {b : Nat} (h : ResN W b 29) (u v x : U) (ex : Int) (s p : ByteArray) : (storeVar 44 ⟨b, 0, none⟩ (.agg #[.string u.sc, .string u.us, .string u.pw, .string u.ho, .int .i64 u.po, .slice u.a5 u.n5 u.c5, .slice u.a6 u.n6 u.c6, .string u.op, .string v.sc, .string v.us, .string v.pw, .string v.ho, .int .i64 v.po, .slice v.a5 v.n5 v.c5, .slice v.a6 v.n6 v.c6, .string v.op, .string x.sc, .string x.us, .string x.pw, .string x.ho, .int .i64 x.po, .slice x.a5 x.n5 x.c5, .slice x.a6 x.n6 x.c6, .string x.op, .int .u32 ex, .string s, .string p, .nilFunc, .nilFunc])).run Try.prog W = .ok () (W.setRow b (cfg u v x ex s p)) := by
  obtain ⟨old, t, r1, r2⟩ := h
  exact run_storeVar_row (P := Try.prog) W b t 44 old (cfg u v x ex s p) r1 info44 r2 (by simp [cfg, Value.oneCell'])

attribute [-go_sem] storeVar in
set_option maxHeartbeats 4000000 in
set_option maxRecDepth 100000 in
theorem newConfig_any (u v x : U) (ex : Int) (s p : ByteArray) (w : World) (hu : u.Few) (hv : v.Few) (hx : x.Few) (h1 : u.At w) (h2 : v.At w) (h3 : x.At w) :
    Calls Try.prog 14 #[u.val, v.val, x.val, .int .u32 ex, .string s, .string p] w fun e w' => ∃ u' v' x' : U, e = .returned (.agg (cfg u' v' x' ex s p)) ∧ Like u u' ∧ Like v v' ∧ Like x x' ∧ u'.At w' ∧ v'.At w' ∧ x'.At w' ∧ Below w.heap.size w w' := by
  have HU := hid hu
  have HV := hid hv
  have HX := hid hx
  have A1 := hid h1
  have A2 := hid h2
  have A3 := hid h3
  clear hu hv hx h1 h2 h3
  unfold U.val
  go_enter Try.func14, Try.ntmps14
  go_wp2
  generalize hW0 : World.alloc (World.alloc (World.alloc (World.alloc w _) _) _) _ = W0
  have B0 : Hid (Below w.heap.size w W0) := by
    subst hW0
    have B1 := W3.below u v x w
    exact B1.alloc B1.size _
  have HS : Unit → S14 u v x w.heap.size W0 W0.drew := by
    intro _
    have B := (Below.refl W0.heap.size W0).drew
    refine S14.call (W := W0) ?_ B
    subst hW0
    refine S14.mk ((W3.boxes u v x w).kept ((Below.refl _ _).alloc (Nat.le_refl _) _) (by rw [W3.size]; omega)) (Below.refl _ _) ?_
    have h := fun cs t => ResN.new (W3 u v x w) cs t
    rw [W3.size] at h
    exact h _ _
  obtain ⟨k, hk⟩ : ∃ k, k = w.heap.size := ⟨_, rfl⟩
  rw [← hk] at HS ⊢
  clear hW0
  have HK := hid hk
  clear hk
  have P1 : Hid (∀ W, S14 u v x k W0 W → u.At W) := fun W hS => A1.out.kept (B0.out.trans (hS.parts.2.1.mono (by have := HK.out; omega)))
  have P2 : Hid (∀ W, S14 u v x k W0 W → v.At W) := fun W hS => A2.out.kept (B0.out.trans (hS.parts.2.1.mono (by have := HK.out; omega)))
  have P3 : Hid (∀ W, S14 u v x k W0 W → x.At W) := fun W hS => A3.out.kept (B0.out.trans (hS.parts.2.1.mono (by have := HK.out; omega)))
  go_region_held3 (fun W => W.cell? ⟨k, 0, none⟩ = some (.string u.sc) ∧ W.cell? ⟨k, 1, none⟩ = some (.string u.us) ∧ W.cell? ⟨k, 2, none⟩ = some (.string u.pw) ∧ W.cell? ⟨k, 3, none⟩ = some (.string u.ho) ∧ W.cell? ⟨k, 4, none⟩ = some (.int .i64 u.po) ∧ W.cell? ⟨k, 5, none⟩ = some (.slice u.a5 u.n5 u.c5) ∧ W.cell? ⟨k, 6, none⟩ = some (.slice u.a6 u.n6 u.c6) ∧ W.cell? ⟨k, 7, none⟩ = some (.string u.op) ∧ W.cell? ⟨k + 1, 0, none⟩ = some (.string v.sc) ∧ W.cell? ⟨k + 1, 1, none⟩ = some (.string v.us) ∧ W.cell? ⟨k + 1, 2, none⟩ = some (.string v.pw) ∧ W.cell? ⟨k + 1, 3, none⟩ = some (.string v.ho) ∧ W.cell? ⟨k + 1, 4, none⟩ = some (.int .i64 v.po) ∧ W.cell? ⟨k + 1, 5, none⟩ = some (.slice v.a5 v.n5 v.c5) ∧ W.cell? ⟨k + 1, 6, none⟩ = some (.slice v.a6 v.n6 v.c6) ∧ W.cell? ⟨k + 1, 7, none⟩ = some (.string v.op) ∧ W.cell? ⟨k + 1 + 1, 0, none⟩ = some (.string x.sc) ∧ W.cell? ⟨k + 1 + 1, 1, none⟩ = some (.string x.us) ∧ W.cell? ⟨k + 1 + 1, 2, none⟩ = some (.string x.pw) ∧ W.cell? ⟨k + 1 + 1, 3, none⟩ = some (.string x.ho) ∧ W.cell? ⟨k + 1 + 1, 4, none⟩ = some (.int .i64 x.po) ∧ W.cell? ⟨k + 1 + 1, 5, none⟩ = some (.slice x.a5 x.n5 x.c5) ∧ W.cell? ⟨k + 1 + 1, 6, none⟩ = some (.slice x.a6 x.n6 x.c6) ∧ W.cell? ⟨k + 1 + 1, 7, none⟩ = some (.string x.op) ∧ Hid (Below (k + 3) W0 W) ∧ Hid (ResN W (k + 1 + 1 + 1) 29))
    ((show S14 u v x k W0 _; first | ((with_reducible refine S14.row ?_ rfl); assumption) | (with_reducible exact HS ()) | ((with_reducible refine S14.call ?_ b3); assumption) | ((with_reducible refine S14.call ?_ b2); assumption) | ((with_reducible refine S14.call ?_ b1); assumption)))
    (first
      | (go_at_call_of 21 (Value.agg #[.string u.sc, .string u.us, .string u.pw, .string u.ho, .int .i64 u.po, .slice u.a5 u.n5 u.c5, .slice u.a6 u.n6 u.c6, .string u.op]); refine (toURI_out u _ HU.out (P1.out _ ‹_›)).mono ?_; rintro e w1 ⟨u', rfl, q1, b1⟩)
      | (go_at_call_of 21 (Value.agg #[.string v.sc, .string v.us, .string v.pw, .string v.ho, .int .i64 v.po, .slice v.a5 v.n5 v.c5, .slice v.a6 v.n6 v.c6, .string v.op]); refine (toURI_out v _ HV.out (P2.out _ ‹_›)).mono ?_; rintro e w2 ⟨v', rfl, q2, b2⟩)
      | (go_at_call_of 21 (Value.agg #[.string x.sc, .string x.us, .string x.pw, .string x.ho, .int .i64 x.po, .slice x.a5 x.n5 x.c5, .slice x.a6 x.n6 x.c6, .string x.op]); refine (toURI_out x _ HX.out (P3.out _ ‹_›)).mono ?_; rintro e w3 ⟨x', rfl, q3, b3⟩)
      | (show Oper.upon _ _ _ _ _ _; rw [cfg_store (S14.parts (u := u) (v := v) (x := x) (k := k) (W0 := W0) (W := w3) ‹_›).2.2, Result.andThen_ok, Oper.upon_skip]))
  have hS3 := (((HS ()).call b1).call b2).call b3
  have K0 := (HS ()).parts.2.2.lt
  obtain ⟨old, t, r1, r2⟩ := hS3.parts.2.2
  generalize hw9 : World.setRow w3 (k + 1 + 1 + 1) _ = w9
  have hrow : w9.heap[k + 1 + 1 + 1]? = some (.cells (cfg u' v' x' ex s p) t (0, 0)) := by
    rw [← hw9]
    exact setRow_heap w3 (k + 1 + 1 + 1) old _ t _ r1
  have hsz : w9.heap.size = w3.heap.size := by rw [← hw9]; exact setRow_size _ _ _
  have hfar : ∀ j, j ≠ k + 1 + 1 + 1 → w9.heap[j]? = w3.heap[j]? := fun j hj => by rw [← hw9]; exact setRow_far _ _ _ _ hj
  have hbel : Below (k + 3) w3 w9 := by rw [← hw9]; exact setRow_below _ _ _
  have hR : (loadVar 44 ⟨k + 1 + 1 + 1, 0, none⟩).run Try.prog w9 = .ok (.agg (cfg u' v' x' ex s p)) w9 := run_loadVar_row w9 _ t 44 _ (0, 0) _ hrow Try.underlying44 rfl info44
  rename_i hH
  clear hw9 r1 hH
  go_wp2
  obtain ⟨l1, t1, g1⟩ := q1.out
  obtain ⟨l2, t2, g2⟩ := q2.out
  obtain ⟨l3, t3, g3⟩ := q3.out
  have e1 := b1.size
  have e2 := b2.size
  have e3 := b3.size
  have hk := HK.out
  exact bodyPost_ret (v := .agg (cfg u' v' x' ex s p)) (by simp [results, Try.results14, asAddr, hR]) rfl
    ⟨u', v', x', rfl, l1, l2, l3, ((t1.kept b2).kept b3).far (by omega) hfar g1 (by omega), (t2.kept b3).far (by omega) hfar g2 (by omega), t3.far (by omega) hfar g3 (by omega), B0.out.trans ((hS3.parts.2.1.trans hbel).mono (by omega))⟩
end Go.Proofs.Qxb6612909a
