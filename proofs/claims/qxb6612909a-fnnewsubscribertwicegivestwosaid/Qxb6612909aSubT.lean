/- configTooBig (13). -/
import Derived.Test.Qxb6612909aSubU
namespace Go.Proofs.Qxb6612909a
open Go.RowKit
set_option linter.unusedVariables false

/-- A box that holds u. -/
structure U.Box (u : U) (w : World) (b : Nat) : Prop where
  lt : b < w.heap.size
  c0 : w.cell? ⟨b, 0, none⟩ = some (.string u.sc)
  c1 : w.cell? ⟨b, 1, none⟩ = some (.string u.us)
  c2 : w.cell? ⟨b, 2, none⟩ = some (.string u.pw)
  c3 : w.cell? ⟨b, 3, none⟩ = some (.string u.ho)
  c4 : w.cell? ⟨b, 4, none⟩ = some (.int .i64 u.po)
  c5 : w.cell? ⟨b, 5, none⟩ = some (.slice u.a5 u.n5 u.c5)
  c6 : w.cell? ⟨b, 6, none⟩ = some (.slice u.a6 u.n6 u.c6)
  c7 : w.cell? ⟨b, 7, none⟩ = some (.string u.op)

theorem U.Box.kept {u : U} {w w' : World} {b k : Nat} (h : u.Box w b) (hb : Below k w w') (hk : b < k) : u.Box w' b :=
  ⟨Nat.lt_of_lt_of_le h.lt hb.size, (hb.cell hk).trans h.c0, (hb.cell hk).trans h.c1, (hb.cell hk).trans h.c2, (hb.cell hk).trans h.c3, (hb.cell hk).trans h.c4, (hb.cell hk).trans h.c5, (hb.cell hk).trans h.c6, (hb.cell hk).trans h.c7⟩

/-- The box as the walk makes it. -/
def U.obj (u : U) (t : Nat) : Obj := .cells #[.string u.sc, .string u.us, .string u.pw, .string u.ho, .int .i64 u.po, .slice u.a5 u.n5 u.c5, .slice u.a6 u.n6 u.c6, .string u.op] t

theorem U.boxed (u : U) (w : World) (t : Nat) : u.Box (w.alloc (u.obj t)) w.heap.size := by
  refine ⟨?_, ?_, ?_, ?_, ?_, ?_, ?_, ?_, ?_⟩ <;> simp [U.obj, go_sem]

def SomeB (e : Ending) : Prop := ∃ r : Bool, e = .returned (.bool r)

/-- Three boxes, one after the other. -/
structure Boxes3 (u v x : U) (k : Nat) (W : World) : Prop where
  b1 : u.Box W k
  b2 : v.Box W (k + 1)
  b3 : x.Box W (k + 1 + 1)

theorem Boxes3.kept {u v x : U} {k B : Nat} {w w' : World} (h : Boxes3 u v x k w) (hb : Below B w w') (hk : k + 3 ≤ B) : Boxes3 u v x k w' :=
  ⟨h.b1.kept hb (by omega), h.b2.kept hb (by omega), h.b3.kept hb (by omega)⟩

/-- The world behind three boxes. -/
def W3 (u v x : U) (w : World) : World := ((w.alloc (u.obj 33)).alloc (v.obj 33)).alloc (x.obj 33)

theorem W3.size (u v x : U) (w : World) : (W3 u v x w).heap.size = w.heap.size + 3 := by simp [W3, go_sem]

theorem W3.below (u v x : U) (w : World) : Below w.heap.size w (W3 u v x w) := by
  have B1 := (Below.refl w.heap.size w).alloc (Nat.le_refl _) (u.obj 33)
  have B2 := B1.alloc B1.size (v.obj 33)
  exact B2.alloc B2.size (x.obj 33)

theorem W3.boxes (u v x : U) (w : World) : Boxes3 u v x w.heap.size (W3 u v x w) := by
  have s1 : (w.alloc (u.obj 33)).heap.size = w.heap.size + 1 := by simp [go_sem]
  have s2 : ((w.alloc (u.obj 33)).alloc (v.obj 33)).heap.size = w.heap.size + 1 + 1 := by simp [go_sem]
  have b1 := u.boxed w 33
  have b2 := v.boxed (w.alloc (u.obj 33)) 33
  have b3 := x.boxed ((w.alloc (u.obj 33)).alloc (v.obj 33)) 33
  have B1 := (Below.refl _ (w.alloc (u.obj 33))).alloc (Nat.le_refl _) (v.obj 33)
  have B2 := (Below.refl _ ((w.alloc (u.obj 33)).alloc (v.obj 33))).alloc (Nat.le_refl _) (x.obj 33)
  rw [s1] at b2
  rw [s2] at b3
  exact ⟨(b1.kept B1 (by omega)).kept B2 (by omega), b2.kept B2 (by omega), b3⟩

set_option maxHeartbeats 1000000 in
set_option maxRecDepth 100000 in
theorem configTooBig_any (u v x : U) (s p : ByteArray) (w : World) (hu : u.Few) (hv : v.Few) (hx : x.Few) (h1 : u.At w) (h2 : v.At w) (h3 : x.At w) :
    Calls Try.prog 13 #[u.val, v.val, x.val, .string s, .string p] w fun e w' => SomeB e ∧ Below w.heap.size w w' := by
  have B3 := hid (W3.below u v x w)
  have BX := hid (W3.boxes u v x w)
  have HU := hid hu
  have HV := hid hv
  have HX := hid hx
  have A1 := hid (h1.kept B3.out)
  have A2 := hid (h2.kept B3.out)
  have A3 := hid (h3.kept B3.out)
  clear h1 h2 h3 hu hv hx
  have K1 : Hid (Calls Try.prog 19 #[.int .i64 0, u.val] (W3 u v x w) fun e w' => Small e ∧ Below (W3 u v x w).heap.size (W3 u v x w) w') := uriBytes_any 0 u _ (by omega) HU.out A1.out
  unfold U.val
  go_enter Try.func13, Try.ntmps13
  go_wp2_with fail
  refine K1.out.mono ?_
  clear K1
  rintro e w1 ⟨⟨r1, hr1, rfl⟩, b1⟩
  have X1 := hid (BX.out.kept b1 (by rw [W3.size]; omega))
  obtain ⟨_, c0, c1, c2, c3, c4, c5, c6, c7⟩ := X1.out.b2
  have A2' := hid (A2.out.kept b1)
  have A3' := hid (A3.out.kept b1)
  have B1 := hid (B3.out.trans (b1.mono B3.out.size))
  clear b1 A1 A2 A3 B3 BX
  go_wp2_with fail
  refine (uriBytes_any r1 v w1 hr1 HV.out A2'.out).mono ?_
  rintro e w2 ⟨⟨r2, hr2, rfl⟩, b2⟩
  clear c0 c1 c2 c3 c4 c5 c6 c7
  have A3 := hid (A3'.out.kept b2)
  have B2 := hid (B1.out.trans (b2.mono B1.out.size))
  obtain ⟨_, c0, c1, c2, c3, c4, c5, c6, c7⟩ := (X1.out.kept b2 (by have := X1.out.b3.lt; omega)).b3
  clear b2 A2' A3' B1 X1
  go_wp2_with fail
  refine (uriBytes_any r2 x w2 hr2 HX.out A3.out).mono ?_
  rintro e w3 ⟨⟨r3, hr3, rfl⟩, b3⟩
  have B := hid (B2.out.trans (b3.mono B2.out.size))
  clear c0 c1 c2 c3 c4 c5 c6 c7 b3 B2 A3
  go_wp2_with fail
  refine (addLen_any _ _ _).mono ?_
  rintro e w' ⟨⟨r4, hr4, rfl⟩, rfl⟩
  go_wp2_with fail
  refine (addLen_any _ _ _).mono ?_
  rintro e w' ⟨⟨r5, hr5, rfl⟩, rfl⟩
  go_wp2
  go_ret
  exact ⟨⟨_, rfl⟩, B.out⟩
end Go.Proofs.Qxb6612909a
