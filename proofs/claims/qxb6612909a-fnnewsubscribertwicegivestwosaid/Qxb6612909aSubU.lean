/- uriBytes (19), configTooBig (13). -/
import Derived.Test.Qxb6612909aSubA
namespace Go.Proofs.Qxb6612909a
open Go.RowKit
set_option linter.unusedVariables false

/-- The parts of a URIArg (or of a sip.URI). -/
structure U where
  (sc us pw ho op : ByteArray) (po : Int) (a5 a6 : Option Addr) (n5 c5 n6 c6 : Nat) (f5 f6 : Nat → ByteArray)

/-- The value that is passed. -/
def U.val (u : U) : Value := .agg #[.string u.sc, .string u.us, .string u.pw, .string u.ho, .int .i64 u.po, .slice u.a5 u.n5 u.c5, .slice u.a6 u.n6 u.c6, .string u.op]

structure U.At (u : U) (w : World) : Prop where
  p5 : PAt w u.a5 u.n5 u.c5 u.f5
  p6 : PAt w u.a6 u.n6 u.c6 u.f6

structure U.Few (u : U) : Prop where
  h5 : u.n5 ≤ 1048576
  h6 : u.n6 ≤ 1048576

theorem U.At.kept {u : U} {w w' : World} (h : u.At w) (hb : Below w.heap.size w w') : u.At w' := ⟨h.p5.kept hb, h.p6.kept hb⟩

set_option maxHeartbeats 1000000 in
set_option maxRecDepth 100000 in
theorem uriBytes_any (m : Nat) (u : U) (w : World) (hm : m ≤ 2097152) (hf : u.Few) (h : u.At w) :
    Calls Try.prog 19 #[.int .i64 m, u.val] w fun e w' => Small e ∧ Below w.heap.size w w' := by
  have B := (Below.refl w.heap.size w).alloc (Nat.le_refl _) (.cells #[.string u.sc, .string u.us, .string u.pw, .string u.ho, .int .i64 u.po, .slice u.a5 u.n5 u.c5, .slice u.a6 u.n6 u.c6, .string u.op] 33)
  have P5 := hid (h.p5.kept B)
  have P6 := hid (h.p6.kept B)
  obtain ⟨h5, h6⟩ := hf
  have BB := hid B
  have H5 := hid h5
  have H6 := hid h6
  clear h B h5 h6
  unfold U.val
  go_enter Try.func19, Try.ntmps19
  go_wp2_with fail
  refine (addLen_any _ _ _).mono ?_
  rintro e w' ⟨⟨r0, hr0, rfl⟩, rfl⟩
  go_wp2_with fail
  refine (addLen_any _ _ _).mono ?_
  rintro e w' ⟨⟨r1, hr1, rfl⟩, rfl⟩
  go_wp2_with fail
  refine (addLen_any _ _ _).mono ?_
  rintro e w' ⟨⟨r2, hr2, rfl⟩, rfl⟩
  go_wp2_with fail
  refine (addLen_any _ _ _).mono ?_
  rintro e w' ⟨⟨r3, hr3, rfl⟩, rfl⟩
  go_wp2_with fail
  refine (addLen_any _ _ _).mono ?_
  rintro e w' ⟨⟨r4, hr4, rfl⟩, rfl⟩
  go_wp2_with fail
  refine (paramsBytes_any _ _ _ _ _ _ hr4 H5.out P5.out).mono ?_
  rintro e w' ⟨⟨r5, hr5, rfl⟩, rfl⟩
  go_wp2_with fail
  refine (paramsBytes_any _ _ _ _ _ _ hr5 H6.out P6.out).mono ?_
  rintro e w' ⟨⟨r6, hr6, rfl⟩, rfl⟩
  go_wp2
  go_ret
  exact ⟨⟨r6, hr6, rfl⟩, BB.out⟩
end Go.Proofs.Qxb6612909a
