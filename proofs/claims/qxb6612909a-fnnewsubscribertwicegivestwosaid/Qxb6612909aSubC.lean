/- ZZSubscriberConfig (22). -/
import Derived.Test.Qxb6612909aSubN
namespace Go.Proofs.Qxb6612909a
open Go.RowKit
set_option linter.unusedVariables false

/-- A URI's cells. -/
def U.cs (u : U) : Array Value := #[.string u.sc, .string u.us, .string u.pw, .string u.ho, .int .i64 u.po, .slice u.a5 u.n5 u.c5, .slice u.a6 u.n6 u.c6, .string u.op]

theorem info40 : (Try.prog.info? 40).map (·.size) = some 8 := by kernel_rfl

theorem uri_store {W : World} {b : Nat} (h : ResN W b 8) (u : U) : (storeVar 40 ⟨b, 0, none⟩ (.agg #[.string u.sc, .string u.us, .string u.pw, .string u.ho, .int .i64 u.po, .slice u.a5 u.n5 u.c5, .slice u.a6 u.n6 u.c6, .string u.op])).run Try.prog W = .ok () (W.setRow b u.cs) := by
  obtain ⟨old, t, r1, r2⟩ := h
  exact run_storeVar_row (P := Try.prog) W b t 40 old u.cs r1 info40 r2 (by simp [U.cs, Value.oneCell'])

set_option maxHeartbeats 1000000 in
set_option maxRecDepth 100000 in
theorem Sub.loads {u v x : U} {ex : Int} {s p : ByteArray} {b c : Nat} {W : World} (h : Sub u v x ex s p b c W) : (loadVar 40 ⟨b, 0, none⟩).run Try.prog W = .ok (.agg #[.string u.sc, .string u.us, .string u.pw, .string u.ho, .int .i64 u.po, .slice u.a5 u.n5 u.c5, .slice u.a6 u.n6 u.c6, .string u.op]) W ∧ (loadVar 40 ⟨b, 8, none⟩).run Try.prog W = .ok (.agg #[.string v.sc, .string v.us, .string v.pw, .string v.ho, .int .i64 v.po, .slice v.a5 v.n5 v.c5, .slice v.a6 v.n6 v.c6, .string v.op]) W ∧ (loadVar 40 ⟨b, 16, none⟩).run Try.prog W = .ok (.agg #[.string x.sc, .string x.us, .string x.pw, .string x.ho, .int .i64 x.po, .slice x.a5 x.n5 x.c5, .slice x.a6 x.n6 x.c6, .string x.op]) W ∧ (loadVar 34 ⟨b, 24, none⟩).run Try.prog W = .ok (.int .u32 ex) W ∧ (loadVar 9 ⟨b, 25, none⟩).run Try.prog W = .ok (.string s) W ∧ (loadVar 9 ⟨b, 26, none⟩).run Try.prog W = .ok (.string p) W := by
  have cc : ∀ j, W.cell? ⟨b, j, none⟩ = (subCells u v x ex s p c)[j]? := fun j => by simp [World.cell?, h.row]
  have c0 : W.cell? ⟨b, 0, none⟩ = some (.string u.sc) := (cc 0).trans rfl
  have c1 : W.cell? ⟨b, 1, none⟩ = some (.string u.us) := (cc 1).trans rfl
  have c2 : W.cell? ⟨b, 2, none⟩ = some (.string u.pw) := (cc 2).trans rfl
  have c3 : W.cell? ⟨b, 3, none⟩ = some (.string u.ho) := (cc 3).trans rfl
  have c4 : W.cell? ⟨b, 4, none⟩ = some (.int .i64 u.po) := (cc 4).trans rfl
  have c5 : W.cell? ⟨b, 5, none⟩ = some (.slice u.a5 u.n5 u.c5) := (cc 5).trans rfl
  have c6 : W.cell? ⟨b, 6, none⟩ = some (.slice u.a6 u.n6 u.c6) := (cc 6).trans rfl
  have c7 : W.cell? ⟨b, 7, none⟩ = some (.string u.op) := (cc 7).trans rfl
  have c8 : W.cell? ⟨b, 8, none⟩ = some (.string v.sc) := (cc 8).trans rfl
  have c9 : W.cell? ⟨b, 9, none⟩ = some (.string v.us) := (cc 9).trans rfl
  have c10 : W.cell? ⟨b, 10, none⟩ = some (.string v.pw) := (cc 10).trans rfl
  have c11 : W.cell? ⟨b, 11, none⟩ = some (.string v.ho) := (cc 11).trans rfl
  have c12 : W.cell? ⟨b, 12, none⟩ = some (.int .i64 v.po) := (cc 12).trans rfl
  have c13 : W.cell? ⟨b, 13, none⟩ = some (.slice v.a5 v.n5 v.c5) := (cc 13).trans rfl
  have c14 : W.cell? ⟨b, 14, none⟩ = some (.slice v.a6 v.n6 v.c6) := (cc 14).trans rfl
  have c15 : W.cell? ⟨b, 15, none⟩ = some (.string v.op) := (cc 15).trans rfl
  have c16 : W.cell? ⟨b, 16, none⟩ = some (.string x.sc) := (cc 16).trans rfl
  have c17 : W.cell? ⟨b, 17, none⟩ = some (.string x.us) := (cc 17).trans rfl
  have c18 : W.cell? ⟨b, 18, none⟩ = some (.string x.pw) := (cc 18).trans rfl
  have c19 : W.cell? ⟨b, 19, none⟩ = some (.string x.ho) := (cc 19).trans rfl
  have c20 : W.cell? ⟨b, 20, none⟩ = some (.int .i64 x.po) := (cc 20).trans rfl
  have c21 : W.cell? ⟨b, 21, none⟩ = some (.slice x.a5 x.n5 x.c5) := (cc 21).trans rfl
  have c22 : W.cell? ⟨b, 22, none⟩ = some (.slice x.a6 x.n6 x.c6) := (cc 22).trans rfl
  have c23 : W.cell? ⟨b, 23, none⟩ = some (.string x.op) := (cc 23).trans rfl
  have c24 : W.cell? ⟨b, 24, none⟩ = some (.int .u32 ex) := (cc 24).trans rfl
  have c25 : W.cell? ⟨b, 25, none⟩ = some (.string s) := (cc 25).trans rfl
  have c26 : W.cell? ⟨b, 26, none⟩ = some (.string p) := (cc 26).trans rfl
  refine ⟨?_, ?_, ?_, ?_, ?_, ?_⟩
  · simp [go_sem, c0, c1, c2, c3, c4, c5, c6, c7]
  · simp [go_sem, c8, c9, c10, c11, c12, c13, c14, c15]
  · simp [go_sem, c16, c17, c18, c19, c20, c21, c22, c23]
  · simp [go_sem, c24]
  · simp [go_sem, c25]
  · simp [go_sem, c26]

theorem alloc3_below (w : World) (o1 o2 o3 : Obj) : Below w.heap.size w (((w.alloc o1).alloc o2).alloc o3) := by
  have B1 := (Below.refl w.heap.size w).alloc (Nat.le_refl _) o1
  have B2 := B1.alloc B1.size o2
  exact B2.alloc B2.size o3

theorem alloc_size (w : World) (o : Obj) : (w.alloc o).heap.size = w.heap.size + 1 := by simp [go_sem]

theorem alloc3_res (w : World) (a1 a2 a3 : Array Value) (t1 t2 t3 : TypeId) (h1 : a1.size = 8) (h2 : a2.size = 8) (h3 : a3.size = 8) :
    ResN (((w.alloc (.cells a1 t1)).alloc (.cells a2 t2)).alloc (.cells a3 t3)) w.heap.size 8 ∧ ResN (((w.alloc (.cells a1 t1)).alloc (.cells a2 t2)).alloc (.cells a3 t3)) (w.heap.size + 1) 8 ∧ ResN (((w.alloc (.cells a1 t1)).alloc (.cells a2 t2)).alloc (.cells a3 t3)) (w.heap.size + 1 + 1) 8 := by
  have e1 := alloc_size w (.cells a1 t1)
  have e2 := alloc_size (w.alloc (.cells a1 t1)) (.cells a2 t2)
  have r1 : ResN (w.alloc (.cells a1 t1)) w.heap.size 8 := h1 ▸ ResN.new w a1 t1
  have r2 : ResN ((w.alloc (.cells a1 t1)).alloc (.cells a2 t2)) (w.heap.size + 1) 8 := by
    have := ResN.new (w.alloc (.cells a1 t1)) a2 t2
    rwa [e1, h2] at this
  have r3 : ResN (((w.alloc (.cells a1 t1)).alloc (.cells a2 t2)).alloc (.cells a3 t3)) (w.heap.size + 1 + 1) 8 := by
    have := ResN.new ((w.alloc (.cells a1 t1)).alloc (.cells a2 t2)) a3 t3
    rwa [e2, e1, h3] at this
  have k1 := (Below.refl _ (w.alloc (.cells a1 t1))).alloc (Nat.le_refl _) (.cells a2 t2)
  have k2 := (Below.refl _ ((w.alloc (.cells a1 t1)).alloc (.cells a2 t2))).alloc (Nat.le_refl _) (.cells a3 t3)
  exact ⟨(r1.kept k1).kept k2, r2.kept k2, r3⟩

/-- Three rows written. -/
theorem rows3 {W : World} {k : Nat} (h : ResN W k 8 ∧ ResN W (k + 1) 8 ∧ ResN W (k + 1 + 1) 8) (a1 a2 a3 : Array Value) :
    (∃ t, (((W.setRow k a1).setRow (k + 1) a2).setRow (k + 1 + 1) a3).heap[k]? = some (.cells a1 t (0, 0))) ∧ (∃ t, (((W.setRow k a1).setRow (k + 1) a2).setRow (k + 1 + 1) a3).heap[k + 1]? = some (.cells a2 t (0, 0))) ∧ (∃ t, (((W.setRow k a1).setRow (k + 1) a2).setRow (k + 1 + 1) a3).heap[k + 1 + 1]? = some (.cells a3 t (0, 0))) := by
  obtain ⟨⟨o1, t1, r1, _⟩, ⟨o2, t2, r2, _⟩, ⟨o3, t3, r3, _⟩⟩ := h
  refine ⟨⟨t1, ?_⟩, ⟨t2, ?_⟩, ⟨t3, ?_⟩⟩
  · rw [setRow_far _ _ _ _ (by omega), setRow_far _ _ _ _ (by omega)]
    exact setRow_heap W k o1 a1 t1 _ r1
  · rw [setRow_far _ _ _ _ (by omega)]
    refine setRow_heap _ (k + 1) o2 a2 t2 _ ?_
    rw [setRow_far _ _ _ _ (by omega)]
    exact r2
  · refine setRow_heap _ (k + 1 + 1) o3 a3 t3 _ ?_
    rw [setRow_far _ _ _ _ (by omega), setRow_far _ _ _ _ (by omega)]
    exact r3

/-- What holds at every step of ZZSubscriberConfig's region. -/
def S22 (u v x : U) (ex : Int) (s p : ByteArray) (b c : Nat) (k : Nat) (W0 W : World) : Prop := (loadVar 40 ⟨b, 0, none⟩).run Try.prog W = .ok (.agg #[.string u.sc, .string u.us, .string u.pw, .string u.ho, .int .i64 u.po, .slice u.a5 u.n5 u.c5, .slice u.a6 u.n6 u.c6, .string u.op]) W ∧ (loadVar 40 ⟨b, 8, none⟩).run Try.prog W = .ok (.agg #[.string v.sc, .string v.us, .string v.pw, .string v.ho, .int .i64 v.po, .slice v.a5 v.n5 v.c5, .slice v.a6 v.n6 v.c6, .string v.op]) W ∧ (loadVar 40 ⟨b, 16, none⟩).run Try.prog W = .ok (.agg #[.string x.sc, .string x.us, .string x.pw, .string x.ho, .int .i64 x.po, .slice x.a5 x.n5 x.c5, .slice x.a6 x.n6 x.c6, .string x.op]) W ∧ (loadVar 34 ⟨b, 24, none⟩).run Try.prog W = .ok (.int .u32 ex) W ∧ (loadVar 9 ⟨b, 25, none⟩).run Try.prog W = .ok (.string s) W ∧ (loadVar 9 ⟨b, 26, none⟩).run Try.prog W = .ok (.string p) W ∧ Hid (Below k W0 W) ∧ Hid (b < k ∧ Sub u v x ex s p b c W) ∧ Hid (ResN W k 8 ∧ ResN W (k + 1) 8 ∧ ResN W (k + 1 + 1) 8)

theorem S22.mk {u v x : U} {ex : Int} {s p : ByteArray} {b c k : Nat} {W0 W : World} (hb : Below k W0 W) (hlt : b < k) (hs : Sub u v x ex s p b c W) (hr : ResN W k 8 ∧ ResN W (k + 1) 8 ∧ ResN W (k + 1 + 1) 8) : S22 u v x ex s p b c k W0 W :=
  have l := hs.loads
  ⟨l.1, l.2.1, l.2.2.1, l.2.2.2.1, l.2.2.2.2.1, l.2.2.2.2.2, hb, ⟨hlt, hs⟩, hr⟩

theorem S22.parts {u v x : U} {ex : Int} {s p : ByteArray} {b c k : Nat} {W0 W : World} (h : S22 u v x ex s p b c k W0 W) : Below k W0 W ∧ b < k ∧ Sub u v x ex s p b c W ∧ ResN W k 8 ∧ ResN W (k + 1) 8 ∧ ResN W (k + 1 + 1) 8 := by
  obtain ⟨_, _, _, _, _, _, h1, h2, h3⟩ := h
  exact ⟨h1, h2.out.1, h2.out.2, h3⟩

theorem ResN.row {W : World} {b n g : Nat} {cs : Array Value} (h : ResN W b n) (hg : b = g → cs.size = n) : ResN (W.setRow g cs) b n := by
  obtain ⟨old, t, r1, r2⟩ := h
  by_cases e : b = g
  · subst e
    exact ⟨cs, t, setRow_heap W b old cs t _ r1, hg rfl⟩
  · exact ⟨old, t, (setRow_far W g cs b e).trans r1, r2⟩

theorem S22.row {u v x : U} {ex : Int} {s p : ByteArray} {b c k : Nat} {W0 W : World} {g : Nat} (h : S22 u v x ex s p b c k W0 W) (hg : k ≤ g) {cs : Array Value} (hc : cs.size = 8) : S22 u v x ex s p b c k W0 (W.setRow g cs) := by
  obtain ⟨h1, h2, h3, h4, h5, h6⟩ := h.parts
  have hb := (setRow_below W g cs).mono hg
  exact S22.mk (h1.trans hb) h2 ⟨h3.lt, (hb.block b h2).trans h3.row⟩ ⟨h4.row (fun _ => hc), h5.row (fun _ => hc), h6.row (fun _ => hc)⟩

theorem S22.row1 {u v x : U} {ex : Int} {s p : ByteArray} {b c k : Nat} {W0 W : World} (h : S22 u v x ex s p b c k W0 W) {q : U} : S22 u v x ex s p b c k W0 (W.setRow k q.cs) := h.row (Nat.le_refl _) rfl
theorem S22.row2 {u v x : U} {ex : Int} {s p : ByteArray} {b c k : Nat} {W0 W : World} (h : S22 u v x ex s p b c k W0 W) {q : U} : S22 u v x ex s p b c k W0 (W.setRow (k + 1) q.cs) := h.row (by omega) rfl
theorem S22.row3 {u v x : U} {ex : Int} {s p : ByteArray} {b c k : Nat} {W0 W : World} (h : S22 u v x ex s p b c k W0 W) {q : U} : S22 u v x ex s p b c k W0 (W.setRow (k + 1 + 1) q.cs) := h.row (by omega) rfl

theorem S22.call {u v x : U} {ex : Int} {s p : ByteArray} {b c k : Nat} {W0 W : World} {W' : World} (h : S22 u v x ex s p b c k W0 W) (hb : Below W.heap.size W W') : S22 u v x ex s p b c k W0 W' := by
  obtain ⟨h1, h2, h3, h4, h5, h6⟩ := h.parts
  have := h4.lt
  exact S22.mk (h1.trans (hb.mono (by omega))) h2 (h3.kept hb) ⟨h4.kept hb, h5.kept hb, h6.kept hb⟩

attribute [-go_sem] storeVar loadVar in
set_option maxHeartbeats 4000000 in
set_option maxRecDepth 100000 in
theorem config_any (u v x : U) (ex : Int) (s p : ByteArray) (b c : Nat) (w : World) (h : Sub u v x ex s p b c w) :
    Calls Try.prog 22 #[.pointer (some ⟨b, 0, none⟩)] w fun e w' => e = .returned (.tuple #[.agg u.cs, .agg v.cs, .agg x.cs, .int .u32 ex, .string s, .string p]) ∧ Below w.heap.size w w' := by
  have H := hid h
  clear h
  go_enter Try.func22, Try.ntmps22
  go_wp2
  generalize hW0 : World.alloc (World.alloc (World.alloc w _) _) _ = W0
  have B0 : Hid (Below w.heap.size w W0) := by
    rw [← hW0]
    exact alloc3_below _ _ _ _
  have HS : Unit → S22 u v x ex s p b c w.heap.size W0 W0.drew := by
    intro _
    refine S22.call (W := W0) ?_ ((Below.refl W0.heap.size W0).drew)
    refine S22.mk (Below.refl _ _) H.out.bnd (H.out.kept B0.out) ?_
    rw [← hW0]
    exact alloc3_res _ _ _ _ _ _ _ rfl rfl rfl
  obtain ⟨k, hk⟩ : ∃ k, k = w.heap.size := ⟨_, rfl⟩
  rw [← hk] at HS ⊢
  have HK := hid hk
  clear hk hW0
  go_region_held3 (fun W => (loadVar 40 ⟨b, 0, none⟩).run Try.prog W = .ok (.agg #[.string u.sc, .string u.us, .string u.pw, .string u.ho, .int .i64 u.po, .slice u.a5 u.n5 u.c5, .slice u.a6 u.n6 u.c6, .string u.op]) W ∧ (loadVar 40 ⟨b, 8, none⟩).run Try.prog W = .ok (.agg #[.string v.sc, .string v.us, .string v.pw, .string v.ho, .int .i64 v.po, .slice v.a5 v.n5 v.c5, .slice v.a6 v.n6 v.c6, .string v.op]) W ∧ (loadVar 40 ⟨b, 16, none⟩).run Try.prog W = .ok (.agg #[.string x.sc, .string x.us, .string x.pw, .string x.ho, .int .i64 x.po, .slice x.a5 x.n5 x.c5, .slice x.a6 x.n6 x.c6, .string x.op]) W ∧ (loadVar 34 ⟨b, 24, none⟩).run Try.prog W = .ok (.int .u32 ex) W ∧ (loadVar 9 ⟨b, 25, none⟩).run Try.prog W = .ok (.string s) W ∧ (loadVar 9 ⟨b, 26, none⟩).run Try.prog W = .ok (.string p) W ∧ Hid (Below k W0 W) ∧ Hid (b < k ∧ Sub u v x ex s p b c W) ∧ Hid (ResN W k 8 ∧ ResN W (k + 1) 8 ∧ ResN W (k + 1 + 1) 8))
    ((show S22 u v x ex s p b c k W0 _; first | (with_reducible exact HS ()) | ((with_reducible refine S22.row1 ?_); assumption) | ((with_reducible refine S22.row2 ?_); assumption) | ((with_reducible refine S22.row3 ?_); assumption)))
    (first | (show Oper.upon _ _ _ _ _ _; first | rw [uri_store (S22.parts (u := u) (v := v) (x := x) (ex := ex) (s := s) (p := p) (b := b) (c := c) (k := k) (W0 := W0) ‹_›).2.2.2.1, Result.andThen_ok, Oper.upon_skip] | rw [uri_store (S22.parts (u := u) (v := v) (x := x) (ex := ex) (s := s) (p := p) (b := b) (c := c) (k := k) (W0 := W0) ‹_›).2.2.2.2.1, Result.andThen_ok, Oper.upon_skip] | rw [uri_store (S22.parts (u := u) (v := v) (x := x) (ex := ex) (s := s) (p := p) (b := b) (c := c) (k := k) (W0 := W0) ‹_›).2.2.2.2.2, Result.andThen_ok, Oper.upon_skip]))
  rename_i hH
  clear hH
  have hP := (HS ()).parts
  have hB := (((HS ()).row1 (q := u)).row2 (q := v)).row3 (q := x) |>.parts.1
  obtain ⟨⟨t1, r1⟩, ⟨t2, r2⟩, ⟨t3, r3⟩⟩ := rows3 hP.2.2.2 u.cs v.cs x.cs
  generalize hw9 : World.setRow (World.setRow (World.setRow _ _ _) _ _) _ _ = w9
  rw [hw9] at r1 r2 r3 hB
  have l1 := run_loadVar_row w9 k t1 40 _ (0, 0) _ r1 Try.underlying40 rfl info40
  have l2 := run_loadVar_row w9 (k + 1) t2 40 _ (0, 0) _ r2 Try.underlying40 rfl info40
  have l3 := run_loadVar_row w9 (k + 1 + 1) t3 40 _ (0, 0) _ r3 Try.underlying40 rfl info40
  clear hw9 hP HS r1 r2 r3
  go_wp2
  exact bodyPost_ret (v := .tuple #[.agg u.cs, .agg v.cs, .agg x.cs, .int .u32 ex, .string s, .string p]) (by simp [results, Try.results22, asAddr, l1, l2, l3]) rfl ⟨rfl, B0.out.trans (hB.mono (Nat.le_of_eq HK.out.symm))⟩
end Go.Proofs.Qxb6612909a
