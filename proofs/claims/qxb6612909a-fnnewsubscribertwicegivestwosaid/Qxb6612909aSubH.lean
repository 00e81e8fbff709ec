/- holdsConfig (17). -/
import Derived.Test.Qxb6612909aSubC
import Derived.Test.Qxb6612909aSubS
namespace Go.Proofs.Qxb6612909a
open Go.RowKit
set_option linter.unusedVariables false

theorem U.Box.ofRow {u : U} {W : World} {b : Nat} {t : TypeId} (h : W.heap[b]? = some (.cells u.cs t (0, 0))) : u.Box W b := by
  refine ⟨(Array.getElem?_eq_some_iff.1 h).1, ?_, ?_, ?_, ?_, ?_, ?_, ?_, ?_⟩ <;> simp [World.cell?, h, U.cs]

attribute [-go_sem] storeVar in
set_option maxHeartbeats 4000000 in
set_option maxRecDepth 100000 in
theorem holds_any (u' v' x' u v x : U) (ex : Int) (s p : ByteArray) (b c : Nat) (w : World) (h : Sub u' v' x' ex s p b c w) (l1 : Like u u') (l2 : Like v v') (l3 : Like x x') (hu : u.Few) (hv : v.Few) (hx : x.Few)
    (h1 : u.At w) (h2 : v.At w) (h3 : x.At w) (h1' : u'.At w) (h2' : v'.At w) (h3' : x'.At w) :
    Calls Try.prog 17 #[.pointer (some ⟨b, 0, none⟩), u.val, v.val, x.val, .int .u32 ex, .string s, .string p] w fun e w' => e = .returned (.bool true) ∧ Below w.heap.size w w' := by
  have B3 := hid (W3.below u v x w)
  have BX := hid (W3.boxes u v x w)
  have KC : Hid (Calls Try.prog 22 #[.pointer (some ⟨b, 0, none⟩)] (W3 u v x w) fun e w' => e = .returned (.tuple #[.agg u'.cs, .agg v'.cs, .agg x'.cs, .int .u32 ex, .string s, .string p]) ∧ Below (W3 u v x w).heap.size (W3 u v x w) w') := config_any u' v' x' ex s p b c _ (h.kept B3.out)
  have HA := hid (And.intro h1 (And.intro h2 (And.intro h3 (And.intro h1' (And.intro h2' h3')))))
  have HF := hid (And.intro hu (And.intro hv hx))
  have HL := hid (And.intro l1 (And.intro l2 l3))
  clear h h1 h2 h3 h1' h2' h3' hu hv hx l1 l2 l3
  unfold U.val
  go_enter Try.func17, Try.ntmps17
  go_wp2_with fail
  refine KC.out.mono ?_
  rintro e w1 ⟨rfl, b1⟩
  clear KC
  have B1 := hid (B3.out.trans (b1.mono B3.out.size))
  have X1 := hid (BX.out.kept b1 (by rw [W3.size]; omega))
  clear b1 BX B3
  unfold U.cs
  go_wp2_with fail
  generalize hW2 : World.alloc (World.alloc (World.alloc w1 _) _) _ = W2
  have B2 : Below w1.heap.size w1 W2 := by
    rw [← hW2]
    exact alloc3_below _ _ _ _
  have R2 : ResN W2 w1.heap.size 8 ∧ ResN W2 (w1.heap.size + 1) 8 ∧ ResN W2 (w1.heap.size + 1 + 1) 8 := by
    rw [← hW2]
    exact alloc3_res _ _ _ _ _ _ _ rfl rfl rfl
  clear hW2
  obtain ⟨k, hk⟩ : ∃ k, k = w1.heap.size := ⟨_, rfl⟩
  rw [← hk] at R2 B2 ⊢
  have ROWS := hid (rows3 R2 u'.cs v'.cs x'.cs)
  have B9 : Hid (Below k w1 (((W2.setRow k u'.cs).setRow (k + 1) v'.cs).setRow (k + 1 + 1) x'.cs)) :=
    ((B2.trans (setRow_below _ _ _)).trans ((setRow_below _ _ _).mono (by omega))).trans ((setRow_below _ _ _).mono (by omega))
  have B2' := hid B2
  have R2' := hid R2
  have HK := hid hk
  clear B2 R2 hk
  rw [uri_store R2'.out.1, Result.andThen_ok, Oper.upon_skip]
  go_wp2_with fail
  rw [uri_store (R2'.out.2.1.row (fun h => by omega)), Result.andThen_ok, Oper.upon_skip]
  go_wp2_with fail
  rw [uri_store ((R2'.out.2.2.row (fun h => by omega)).row (fun h => by omega)), Result.andThen_ok, Oper.upon_skip]
  generalize hw9 : World.setRow (World.setRow (World.setRow _ _ _) _ _) _ _ = w9
  rw [hw9] at ROWS B9
  clear hw9 R2' B2'
  have hkw : w.heap.size + 3 ≤ k := by
    have := X1.out.b3.lt
    have := HK.out
    omega
  have Y := hid (show Boxes3 u' v' x' k w9 from by
    obtain ⟨⟨t1, r1⟩, ⟨t2, r2⟩, ⟨t3, r3⟩⟩ := ROWS.out
    exact ⟨U.Box.ofRow r1, U.Box.ofRow r2, U.Box.ofRow r3⟩)
  have X := hid (X1.out.kept B9.out hkw)
  have D := hid (B1.out.trans (B9.out.mono (by omega)))
  clear ROWS X1 B1 B9
  have HKW := hid hkw
  clear hkw
  obtain ⟨_, c0, c1, c2, c3, c4, c5, c6, c7⟩ := Y.out.b1
  obtain ⟨_, d0, d1, d2, d3, d4, d5, d6, d7⟩ := X.out.b1
  go_wp2_with fail
  refine (sameURI_any u' u w9 HL.out.1 HF.out.1 (HA.out.2.2.2.1.kept D.out) (HA.out.1.kept D.out)).mono ?_
  rintro e w10 ⟨rfl, b10⟩
  clear c0 c1 c2 c3 c4 c5 c6 c7 d0 d1 d2 d3 d4 d5 d6 d7
  have Y' := hid (Y.out.kept b10 (by have := Y.out.b3.lt; omega))
  have X' := hid (X.out.kept b10 (by have := X.out.b3.lt; omega))
  have D' := hid (D.out.trans (b10.mono D.out.size))
  clear b10 D X Y
  obtain ⟨_, c0, c1, c2, c3, c4, c5, c6, c7⟩ := Y'.out.b2
  obtain ⟨_, d0, d1, d2, d3, d4, d5, d6, d7⟩ := X'.out.b2
  go_wp2_with fail
  refine (sameURI_any v' v w10 HL.out.2.1 HF.out.2.1 (HA.out.2.2.2.2.1.kept D'.out) (HA.out.2.1.kept D'.out)).mono ?_
  rintro e w11 ⟨rfl, b11⟩
  clear c0 c1 c2 c3 c4 c5 c6 c7 d0 d1 d2 d3 d4 d5 d6 d7
  have Y := hid (Y'.out.kept b11 (by have := Y'.out.b3.lt; omega))
  have X := hid (X'.out.kept b11 (by have := X'.out.b3.lt; omega))
  have D := hid (D'.out.trans (b11.mono D'.out.size))
  clear b11 D' X' Y'
  obtain ⟨_, c0, c1, c2, c3, c4, c5, c6, c7⟩ := Y.out.b3
  obtain ⟨_, d0, d1, d2, d3, d4, d5, d6, d7⟩ := X.out.b3
  go_wp2_with fail
  refine (sameURI_any x' x w11 HL.out.2.2 HF.out.2.2 (HA.out.2.2.2.2.2.kept D.out) (HA.out.2.2.1.kept D.out)).mono ?_
  rintro e w12 ⟨rfl, b12⟩
  clear c0 c1 c2 c3 c4 c5 c6 c7 d0 d1 d2 d3 d4 d5 d6 d7
  have D' := hid (D.out.trans (b12.mono D.out.size))
  clear b12 D X Y
  go_wp2
  go_ret
  exact ⟨rfl, D'.out⟩
end Go.Proofs.Qxb6612909a
