/- The law (4). -/
import Derived.Test.Qxb6612909aSubH
import Derived.Test.Qxb6612909aSubZ
import Derived.LaidEqlPtr
namespace Go.Proofs.Qxb6612909a
open Go.RowKit
set_option linter.unusedVariables false

theorem U.Box.load {u : U} {W : World} {b : Nat} (h : u.Box W b) : (loadVar 33 ⟨b, 0, none⟩).run Try.prog W = .ok (.agg #[.string u.sc, .string u.us, .string u.pw, .string u.ho, .int .i64 u.po, .slice u.a5 u.n5 u.c5, .slice u.a6 u.n6 u.c6, .string u.op]) W := by
  simp [go_sem, h.c0, h.c1, h.c2, h.c3, h.c4, h.c5, h.c6, h.c7]

theorem cfg_stored {W : World} {b : Nat} (h : ResN W b 29) (u v x : U) (ex : Int) (s p : ByteArray) : (storeVar 44 ⟨b, 0, none⟩ (.agg (cfg u v x ex s p))).run Try.prog W = .ok () (W.setRow b (cfg u v x ex s p)) := cfg_store h u v x ex s p

theorem ptr_nil (a : Addr) (W : World) : (binOp .eql 46 (.pointer (some a)) (.pointer none)).run Try.prog W = .ok (.bool false) W := by
  have h : ∀ d : Nat, (Op.equalIn (d + 1) 46 (.pointer (some a)) (.pointer none)).run Try.prog W = .ok false W := fun d => by
    simp [Op.equalIn, run_underlying Try.underlying46]
  simp only [binOp]
  simp [Op.equal, Op.maxDepth, h 9999]

theorem info82 : (Try.prog.info? 82).map (·.size) = some 91 := by kernel_rfl

theorem ptr_two {a b : Nat} (hne : a ≠ b) {W : World} {ca cb : Array Value} {ta tb : TypeId} (h1 : W.heap[a]? = some (.cells ca ta (0, 0))) (h2 : W.heap[b]? = some (.cells cb tb (0, 0))) :
    (binOp .eql 46 (.pointer (some ⟨a, 0, none⟩)) (.pointer (some ⟨b, 0, none⟩))).run Try.prog W = .ok (.bool false) W := by
  cases hi : Try.prog.info? 82 with
  | none =>
    have := info82
    rw [hi] at this
    cases this
  | some j =>
    have hs : j.size = 91 := by
      have := info82
      rw [hi] at this
      exact Option.some.inj this
    exact run_eql_ptr_other W Try.underlying46 hi (by omega) (fun h => hne (by cases h; rfl)) h1 h2

theorem chan_neq (a b : Option Nat) (hne : a ≠ b) (W : World) : (binOp .neq 48 (.chan a) (.chan b)).run Try.prog W = .ok (.bool true) W := by
  have h : ∀ d : Nat, (Op.equalIn (d + 1) 48 (.chan a) (.chan b)).run Try.prog W = .ok false W := fun d => by
    simp [Op.equalIn, run_underlying Try.underlying48, hne]
  simp only [binOp]
  simp [Op.equal, Op.maxDepth, h 9999]

attribute [-go_sem] storeVar loadVar in
set_option maxHeartbeats 4000000 in
set_option maxRecDepth 100000 in
theorem law_any (u v x : U) (ex : Int) (s p : ByteArray) (w : World) (h1 : u.At w) (h2 : v.At w) (h3 : x.At w) :
    Calls Try.prog 4 #[u.val, v.val, x.val, .int .u32 ex, .string s, .string p] w fun e w' => e = .returned (.bool true) ∧ Below w.heap.size w w' := by
  have B3 := hid (W3.below u v x w)
  have BX := hid (W3.boxes u v x w)
  have A := hid (And.intro h1 (And.intro h2 h3))
  have K12 : Hid (Calls Try.prog 12 #[u.val, v.val, x.val, .int .u32 ex, .string s, .string p] (W3 u v x w) fun e w' => Zz u v x e ∧ Below (W3 u v x w).heap.size (W3 u v x w) w') := zz_any u v x ex s p _ (h1.kept B3.out) (h2.kept B3.out) (h3.kept B3.out)
  clear h1 h2 h3
  have l1 := BX.out.b1.load
  have l2 := BX.out.b2.load
  have l3 := BX.out.b3.load
  unfold W3 U.obj at l1 l2 l3
  unfold U.val
  go_enter Try.func4, Try.ntmps4
  go_wp2_with fail
  refine K12.out.mono ?_
  rintro e w1 ⟨hz, b1⟩
  clear K12 l1 l2 l3
  have B1 := hid (B3.out.trans (b1.mono B3.out.size))
  have X1 := hid (BX.out.kept b1 (by rw [W3.size]; omega))
  clear b1 BX B3
  obtain rfl | ⟨rfl, hu, hv, hx⟩ := hz
  · go_wp2
    go_ret
    exact ⟨rfl, B1.out⟩
  have F := hid (And.intro hu (And.intro hv hx))
  clear hu hv hx
  have l1 := X1.out.b1.load
  have l2 := X1.out.b2.load
  have l3 := X1.out.b3.load
  go_wp2_with fail
  refine (configTooBig_any u v x s p w1 F.out.1 F.out.2.1 F.out.2.2 (A.out.1.kept B1.out) (A.out.2.1.kept B1.out) (A.out.2.2.kept B1.out)).mono ?_
  rintro e w2 ⟨⟨r, rfl⟩, b2⟩
  clear l1 l2 l3
  have B2 := hid (B1.out.trans (b2.mono B1.out.size))
  have X2 := hid (X1.out.kept b2 (by have := X1.out.b3.lt; omega))
  clear b2 X1 B1
  cases r with
  | true =>
    go_wp2
    go_ret
    exact ⟨rfl, B2.out⟩
  | false =>
  have l1 := X2.out.b1.load
  have l2 := X2.out.b2.load
  have l3 := X2.out.b3.load
  go_wp2_with fail
  refine (newConfig_any u v x ex s p w2 F.out.1 F.out.2.1 F.out.2.2 (A.out.1.kept B2.out) (A.out.2.1.kept B2.out) (A.out.2.2.kept B2.out)).mono ?_
  rintro e w3 ⟨u', v', x', rfl, k1, k2, k3, t1, t2, t3, b3⟩
  clear l1 l2 l3
  have LK := hid (And.intro k1 (And.intro k2 k3))
  have T3 := hid (And.intro t1 (And.intro t2 t3))
  have B3 := hid (B2.out.trans (b3.mono B2.out.size))
  have X3 := hid (X2.out.kept b3 (by have := X2.out.b3.lt; omega))
  clear b3 X2 B2 k1 k2 k3 t1 t2 t3
  go_wp2_with fail
  generalize hW4 : World.alloc w3 _ = W4
  have R4 : ResN W4 w3.heap.size 29 := by
    rw [← hW4]
    exact ResN.new w3 _ _
  have B4 : Hid (Below w3.heap.size w3 W4) := by
    rw [← hW4]
    exact (Below.refl _ _).alloc (Nat.le_refl _) _
  clear hW4
  rw [cfg_stored R4, Result.andThen_ok, Oper.upon_skip]
  obtain ⟨old, t, r1, r2⟩ := R4
  have row := hid (setRow_heap W4 w3.heap.size old (cfg u' v' x' ex s p) t _ r1)
  have B5 := hid (B4.out.trans (setRow_below W4 w3.heap.size (cfg u' v' x' ex s p)))
  clear r1 r2 B4
  generalize World.setRow W4 w3.heap.size (cfg u' v' x' ex s p) = W5 at *
  have X5 := hid (X3.out.kept B5.out (by have := X3.out.b3.lt; omega))
  have D5 := hid (B3.out.trans (B5.out.mono B3.out.size))
  have T5 := hid (And.intro (T3.out.1.kept B5.out) (And.intro (T3.out.2.1.kept B5.out) (T3.out.2.2.kept B5.out)))
  have hlt := (Array.getElem?_eq_some_iff.1 row.out).1
  have ld := run_loadVar_row W5 w3.heap.size t 44 _ (0, 0) _ row.out Try.underlying44 rfl info44
  clear X3 B3 T3 B5
  go_wp2_with fail
  refine (newSubscriber_any u' v' x' ex s p W5).mono ?_
  rintro e w6 ⟨p1, q1, rfl, sb1, g1, b6⟩
  clear ld
  have ld := run_loadVar_row w6 w3.heap.size t 44 _ (0, 0) _ ((b6.block _ hlt).trans row.out) Try.underlying44 rfl info44
  have X6 := hid (X5.out.kept b6 (by have := X5.out.b3.lt; omega))
  have D6 := hid (D5.out.trans (b6.mono D5.out.size))
  have T6 := hid (And.intro (T5.out.1.kept b6) (And.intro (T5.out.2.1.kept b6) (T5.out.2.2.kept b6)))
  clear X5 D5 T5 b6 row hlt g1
  go_wp2_with fail
  refine (newSubscriber_any u' v' x' ex s p w6).mono ?_
  rintro e w7 ⟨p2, q2, rfl, sb2, g2, b7⟩
  clear ld
  have sb1' := hid (sb1.kept b7)
  have X7 := hid (X6.out.kept b7 (by have := X6.out.b3.lt; omega))
  have D7 := hid (D6.out.trans (b7.mono D6.out.size))
  have T7 := hid (And.intro (T6.out.1.kept b7) (And.intro (T6.out.2.1.kept b7) (T6.out.2.2.kept b7)))
  have n1 : p1 ≠ p2 := by
    have := sb1.bnd
    have := sb2.lt
    omega
  have n2 : q1 ≠ q2 := by
    have := sb1.bnd
    have := sb1.lt
    omega
  have e1 := ptr_nil ⟨p1, 0, none⟩
  have e2 := ptr_nil ⟨p2, 0, none⟩
  have e3 := ptr_two n1 sb1'.out.row sb2.row
  have e4 := chan_neq (some q1) none (by simp)
  have e5 := chan_neq (some q2) none (by simp)
  have e6 := chan_neq (some q1) (some q2) (by simp [n2])
  have sb2' := hid sb2
  clear X6 D6 T6 b7 g2 sb1 sb2 n1 n2
  go_wp2_with fail
  refine (done_any p1 q1 w7 sb1'.out.done).mono ?_
  rintro e w' ⟨rfl, rfl⟩
  go_wp2_with fail
  refine (done_any p2 q2 w7 sb2'.out.done).mono ?_
  rintro e w' ⟨rfl, rfl⟩
  have l1 := X7.out.b1.load
  have l2 := X7.out.b2.load
  have l3 := X7.out.b3.load
  go_wp2_with fail
  refine (holds_any u' v' x' u v x ex s p p1 q1 w7 sb1'.out LK.out.1 LK.out.2.1 LK.out.2.2 F.out.1 F.out.2.1 F.out.2.2 (A.out.1.kept D7.out) (A.out.2.1.kept D7.out) (A.out.2.2.kept D7.out) T7.out.1 T7.out.2.1 T7.out.2.2).mono ?_
  rintro e w8 ⟨rfl, b8⟩
  clear l1 l2 l3 e3
  have X8 := hid (X7.out.kept b8 (by have := X7.out.b3.lt; omega))
  have D8 := hid (D7.out.trans (b8.mono D7.out.size))
  have T8 := hid (And.intro (T7.out.1.kept b8) (And.intro (T7.out.2.1.kept b8) (T7.out.2.2.kept b8)))
  have s8 := hid (sb2'.out.kept b8)
  clear b8 X7 D7 T7 sb1' sb2'
  have l1 := X8.out.b1.load
  have l2 := X8.out.b2.load
  have l3 := X8.out.b3.load
  go_wp2_with fail
  refine (holds_any u' v' x' u v x ex s p p2 q2 w8 s8.out LK.out.1 LK.out.2.1 LK.out.2.2 F.out.1 F.out.2.1 F.out.2.2 (A.out.1.kept D8.out) (A.out.2.1.kept D8.out) (A.out.2.2.kept D8.out) T8.out.1 T8.out.2.1 T8.out.2.2).mono ?_
  rintro e w9 ⟨rfl, b9⟩
  have D9 := hid (D8.out.trans (b9.mono D8.out.size))
  clear b9 l1 l2 l3 X8 D8 T8 s8
  go_wp2
  go_ret
  exact ⟨rfl, D9.out⟩
end Go.Proofs.Qxb6612909a
