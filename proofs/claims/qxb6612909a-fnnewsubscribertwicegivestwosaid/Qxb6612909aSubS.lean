/- sameURI (23). -/
import Derived.Test.Qxb6612909aSubW
namespace Go.Proofs.Qxb6612909a
open Go.RowKit
set_option linter.unusedVariables false

set_option maxHeartbeats 2000000 in
set_option maxRecDepth 100000 in
theorem sameURI_any (u' u : U) (w : World) (l : Like u u') (hf : u.Few) (h' : u'.At w) (h : u.At w) :
    Calls Try.prog 23 #[u'.val, u.val] w fun e w' => e = .returned (.bool true) ∧ Below w.heap.size w w' := by
  obtain ⟨sc, us, pw, ho, op, po, a5, a6, n5, c5, n6, c6, f5, f6⟩ := u
  obtain ⟨sc', us', pw', ho', op', po', b5, b6, n5', d5, n6', d6, f5', f6'⟩ := u'
  obtain ⟨rfl, rfl, rfl, rfl, rfl, rfl, rfl, rfl, rfl, rfl⟩ := l
  simp only at *
  obtain ⟨h5, h6⟩ := hf
  obtain ⟨p5, p6⟩ := h
  obtain ⟨q5, q6⟩ := h'
  simp only at *
  obtain ⟨o1, ho1⟩ : ∃ o1, o1 = Obj.cells #[.string sc', .string us', .string pw', .string ho', .int .i64 po', .slice b5 n5' d5, .slice b6 n6' d6, .string op'] 40 := ⟨_, rfl⟩
  obtain ⟨o2, ho2⟩ : ∃ o2, o2 = Obj.cells #[.string sc', .string us', .string pw', .string ho', .int .i64 po', .slice a5 n5' c5, .slice a6 n6' c6, .string op'] 33 := ⟨_, rfl⟩
  have B1 := (Below.refl w.heap.size w).alloc (Nat.le_refl _) o1
  have B2 := B1.alloc B1.size o2
  have K1 : Hid (Calls Try.prog 27 #[.slice b5 n5' d5, .slice a5 n5' c5] ((w.alloc o1).alloc o2) fun e w' => e = .returned (.bool true) ∧ ∃ m, w' = ((w.alloc o1).alloc o2).drewN m) := sameParams_any b5 a5 n5' d5 c5 f5' _ h5 (q5.kept B2) (p5.kept B2)
  have K2 : Hid (∀ m, Calls Try.prog 27 #[.slice b6 n6' d6, .slice a6 n6' c6] (((w.alloc o1).alloc o2).drewN m) fun e w' => e = .returned (.bool true) ∧ ∃ m', w' = (((w.alloc o1).alloc o2).drewN m).drewN m') := fun m => sameParams_any b6 a6 n6' d6 c6 f6' _ h6 (q6.kept (below_drewN B2 m)) (p6.kept (below_drewN B2 m))
  have HB := hid B2
  clear B1 B2 p5 p6 q5 q6 h5 h6
  subst ho1 ho2
  unfold U.val
  go_enter Try.func23, Try.ntmps23
  go_wp2_with fail
  refine K1.out.mono ?_
  rintro e w' ⟨rfl, m, rfl⟩
  clear K1
  go_wp2_with fail
  refine (K2.out m).mono ?_
  rintro e w' ⟨rfl, m', rfl⟩
  go_wp2
  go_ret
  exact ⟨rfl, below_drewN HB.out _⟩
end Go.Proofs.Qxb6612909a
