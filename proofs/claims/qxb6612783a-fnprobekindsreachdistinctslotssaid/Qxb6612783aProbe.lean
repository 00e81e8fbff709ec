/- FnProbeKindsReachDistinctSlots (3), Probe (4), probeAt (5): the walk. -/
import Derived.Test.Qxb6612783aRows
import Derived.LaidEqlPtr
import Derived.WalkKit
namespace Go.Proofs.Qxb6612783a
open Go.RowKit
set_option linter.unusedVariables false

theorem hid {p : Prop} (h : p) : Hid p := h

/-- The pointer in the slot of kind k. -/
def sel (k : Int) (p q r : Option Addr) : Option Addr := if k = 0 then p else if k = 1 then q else if k = 2 then r else none

set_option maxHeartbeats 1000000 in
set_option maxRecDepth 100000 in
theorem probe_any (g : Nat) (k : Int) (p q r : Option Addr) (w : World) (c9 : w.cell? ⟨g, 9, none⟩ = some (.pointer p)) (c10 : w.cell? ⟨g, 10, none⟩ = some (.pointer q)) (c11 : w.cell? ⟨g, 11, none⟩ = some (.pointer r)) :
    Calls Try.prog 4 #[.pointer (some ⟨g, 0, none⟩), .int .i64 k] w fun e w' => e = .returned (.pointer (sel k p q r)) ∧ w = w' := by
  by_cases h0 : k = 0
  · subst h0
    go_enter Try.func4, Try.ntmps4
    go_wp2
    go_ret
    exact ⟨rfl, rfl⟩
  by_cases h1 : k = 1
  · subst h1
    go_enter Try.func4, Try.ntmps4
    go_wp2
    go_ret
    exact ⟨rfl, rfl⟩
  by_cases h2 : k = 2
  · subst h2
    go_enter Try.func4, Try.ntmps4
    go_wp2
    go_ret
    exact ⟨rfl, rfl⟩
  · have e : sel k p q r = none := by rw [sel, if_neg h0, if_neg h1, if_neg h2]
    rw [e]
    have g0 : (k == 0) = false := by simpa using h0
    have g1 : (k == 1) = false := by simpa using h1
    have g2 : (k == 2) = false := by simpa using h2
    clear e h0 h1 h2
    go_enter Try.func4, Try.ntmps4
    go_wp2
    go_ret
    exact ⟨rfl, rfl⟩

set_option maxHeartbeats 1000000 in
set_option maxRecDepth 100000 in
theorem at_any (k : Int) (p q r : Option Addr) (w : World) :
    Calls Try.prog 5 #[.pointer p, .pointer q, .pointer r, .int .i64 k] w fun e w' => e = .returned (.pointer (sel k p q r)) ∧ w = w' := by
  by_cases h0 : k = 0
  · subst h0
    go_enter Try.func5, Try.ntmps5
    go_wp2
    go_ret
    exact ⟨rfl, rfl⟩
  by_cases h1 : k = 1
  · subst h1
    go_enter Try.func5, Try.ntmps5
    go_wp2
    go_ret
    exact ⟨rfl, rfl⟩
  by_cases h2 : k = 2
  · subst h2
    go_enter Try.func5, Try.ntmps5
    go_wp2
    go_ret
    exact ⟨rfl, rfl⟩
  · have e : sel k p q r = none := by rw [sel, if_neg h0, if_neg h1, if_neg h2]
    rw [e]
    have g0 : (k == 0) = false := by simpa using h0
    have g1 : (k == 1) = false := by simpa using h1
    have g2 : (k == 2) = false := by simpa using h2
    clear e h0 h1 h2
    go_enter Try.func5, Try.ntmps5
    go_wp2
    go_ret
    exact ⟨rfl, rfl⟩

theorem info30 : ∃ i, Try.prog.info? 30 = some i ∧ i.size ≠ 0 := by
  have h : ((Try.prog.info? 30).map fun i => decide (i.size ≠ 0)) = some true := by kernel_rfl
  obtain ⟨i, hi, hs⟩ := Option.map_eq_some_iff.1 h
  exact ⟨i, hi, of_decide_eq_true hs⟩

/-- '==' on two pointers that are nil or lead to a block. -/
theorem eql_opt (W : World) (x y : Option Addr) (hx : ∀ a, x = some a → ∃ c t, W.heap[a.block]? = some (.cells c t (0, 0))) (hy : ∀ a, y = some a → ∃ c t, W.heap[a.block]? = some (.cells c t (0, 0))) :
    (binOp .eql 22 (.pointer x) (.pointer y)).run Try.prog W = .ok (.bool (decide (x = y))) W := by
  obtain ⟨i, hi, hs⟩ := info30
  cases x with
  | none =>
    have h : ∀ d : Nat, (Op.equalIn (d + 1) 22 (.pointer none) (.pointer y)).run Try.prog W = .ok y.isNone W := fun d => by
      simp [Op.equalIn, run_underlying Try.underlying22]
    simp only [binOp]
    cases y <;> simp [Op.equal, Op.maxDepth, h 9999]
  | some a =>
    cases y with
    | none =>
      have h : ∀ d : Nat, (Op.equalIn (d + 1) 22 (.pointer (some a)) (.pointer none)).run Try.prog W = .ok false W := fun d => by
        simp [Op.equalIn, run_underlying Try.underlying22]
      simp only [binOp]
      simp [Op.equal, Op.maxDepth, h 9999]
    | some b =>
      by_cases e : a = b
      · subst e
        rw [run_eql_ptr_same W a Try.underlying22 hi]
        simp
      · obtain ⟨c1, t1, h1⟩ := hx a rfl
        obtain ⟨c2, t2, h2⟩ := hy b rfl
        rw [run_eql_ptr_other W Try.underlying22 hi hs e h1 h2]
        simp [e]

/-- Three slots whose pointers, where they are not nil, are three. -/
theorem sel_eq (k l : Int) (p q r : Option Addr) (h1 : p = q → p = none) (h2 : p = r → p = none) (h3 : q = r → q = none) :
    decide (sel k p q r = sel l p q r) = (k == l || ((sel k p q r).isNone && (sel l p q r).isNone)) := by
  by_cases e : k = l
  · subst e; simp
  · have e' : (k == l) = false := by simpa using e
    rw [e', Bool.false_or]
    unfold sel
    by_cases k0 : k = 0 <;> by_cases k1 : k = 1 <;> by_cases k2 : k = 2 <;> by_cases l0 : l = 0 <;> by_cases l1 : l = 1 <;> by_cases l2 : l = 2 <;> try omega
    all_goals
      simp only [k0, k1, k2, l0, l1, l2, if_true, if_false]
      cases p <;> cases q <;> cases r <;> simp_all
    all_goals (intro e; first | exact h1 e.symm | exact h2 e.symm | exact h3 e.symm)

theorem ret_b {a b : Bool} (h : a = b) : Ending.returned (.bool a) = .returned (.bool b) := by rw [h]

theorem way3 {k l : Int} {X Y : Option Addr} (h : ¬ X = none) : ((k == l || X.isNone && Y.isNone) == (k == l)) = true := by
  cases X with
  | none => exact absurd rfl h
  | some a => simp

theorem cell_new (w : World) (c : Array Value) (t : TypeId) (j n : Nat) (hn : n = w.heap.size) : (w.alloc (.cells c t)).cell? ⟨n, j, none⟩ = c[j]? := by
  subst hn; exact cell_of_row _ _ j c t (0, 0) (heap_alloc_new w _)

/-- A block lies at the address. -/
def Live (W : World) (a : Addr) : Prop := ∃ c t, W.heap[a.block]? = some (.cells c t (0, 0))

theorem live_new (w : World) (c : Array Value) (t : TypeId) : Live (w.alloc (.cells c t)) ⟨w.heap.size, 0, none⟩ := ⟨c, t, heap_alloc_new w _⟩
theorem live_old {w : World} {a : Addr} (h : Live w a) (o : Obj) : Live (w.alloc o) a := by
  obtain ⟨c, t, h⟩ := h
  exact ⟨c, t, (heap_alloc_old w o (Array.getElem?_eq_some_iff.1 h).1).trans h⟩

theorem sel_live (W : World) (k : Int) (p q r : Option Addr) (hp : ∀ a, p = some a → Live W a) (hq : ∀ a, q = some a → Live W a) (hr : ∀ a, r = some a → Live W a) : ∀ a, sel k p q r = some a → Live W a := by
  unfold sel
  intro a h
  split at h
  · exact hp a h
  · split at h
    · exact hq a h
    · split at h
      · exact hr a h
      · cases h

/-- What the walk is told: the container's world. -/
structure Told (w W : World) (G : Nat) (p q r : Option Addr) : Prop where
  c9 : W.cell? ⟨G, 9, none⟩ = some (.pointer p)
  c10 : W.cell? ⟨G, 10, none⟩ = some (.pointer q)
  c11 : W.cell? ⟨G, 11, none⟩ = some (.pointer r)
  lp : ∀ a, p = some a → Live W a
  lq : ∀ a, q = some a → Live W a
  lr : ∀ a, r = some a → Live W a
  pq : p = q → p = none
  pr : p = r → p = none
  qr : q = r → q = none
  gr : Grown w W

theorem Told.eql {w W : World} {G : Nat} {p q r : Option Addr} (h : Told w W G p q r) (k l : Int) :
    (binOp .eql 22 (.pointer (sel k p q r)) (.pointer (sel l p q r))).run Try.prog W = .ok (.bool (k == l || ((sel k p q r).isNone && (sel l p q r).isNone))) W := by
  rw [← sel_eq k l p q r h.pq h.pr h.qr]
  exact eql_opt W _ _ (sel_live W k p q r h.lp h.lq h.lr) (sel_live W l p q r h.lp h.lq h.lr)

theorem told0 (w : World) : Told w (w.alloc (.cells #[.string ⟨#[]⟩, .string ⟨#[]⟩, .slice none 0 0, .slice none 0 0, .string ⟨#[]⟩, .slice none 0 0, .slice none 0 0, .slice none 0 0, .pointer none, .pointer none, .pointer none, .pointer none, .pointer none] 39)) (w.heap.size) none none none :=
  { c9 := cell_new _ _ _ 9 _ (by simp), c10 := cell_new _ _ _ 10 _ (by simp), c11 := cell_new _ _ _ 11 _ (by simp), lp := (fun a h => by cases h), lq := (fun a h => by cases h), lr := (fun a h => by cases h), pq := (fun h => rfl), pr := (fun h => rfl), qr := (fun h => rfl), gr := by repeat (first | exact Grown.refl _ | apply Grown.alloc) }

set_option maxHeartbeats 1000000 in
set_option maxRecDepth 100000 in
theorem walk0 (k l : Int) (w : World) : Calls Try.prog 3 #[.int .i64 k, .int .i64 l, .bool false, .bool false, .bool false] w fun e w' => e = .returned (.bool true) ∧ Grown w w' := by
  have T := told0 w
  obtain ⟨W, hW⟩ : ∃ W, W = w.alloc (.cells #[.string ⟨#[]⟩, .string ⟨#[]⟩, .slice none 0 0, .slice none 0 0, .string ⟨#[]⟩, .slice none 0 0, .slice none 0 0, .slice none 0 0, .pointer none, .pointer none, .pointer none, .pointer none, .pointer none] 39) := ⟨_, rfl⟩
  rw [← hW] at T
  have K1 := hid (probe_any _ k _ _ _ W T.c9 T.c10 T.c11)
  have K2 := hid (probe_any _ l _ _ _ W T.c9 T.c10 T.c11)
  have K3 := hid (at_any k none none none W)
  have K4 := hid (at_any l none none none W)
  have heq := T.eql k l
  have HG := hid T.gr
  clear T
  obtain ⟨X, hX⟩ : ∃ X, X = sel k none none none := ⟨_, rfl⟩
  obtain ⟨Y, hY⟩ : ∃ Y, Y = sel l none none none := ⟨_, rfl⟩
  rw [← hX] at K1 K3 heq
  rw [← hY] at K2 K4 heq
  have HW := hid hW
  clear hX hY hW
  go_enter Try.func3, Try.ntmps3
  go_wp2_with fail
  rw [← HW.out]
  refine K1.out.mono ?_
  rintro e w1 ⟨rfl, rfl⟩
  go_wp2_with fail
  refine K2.out.mono ?_
  rintro e w1 ⟨rfl, rfl⟩
  go_wp2_with fail
  refine K3.out.mono ?_
  rintro e w1 ⟨rfl, rfl⟩
  go_wp2_with fail
  refine K4.out.mono ?_
  rintro e w1 ⟨rfl, rfl⟩
  go_wp2
  all_goals
    go_ret
    refine ⟨?_, HG.out⟩
    first | exact rfl | exact ret_b (way3 (by assumption))

theorem told1 (w : World) : Told w ((w.alloc (.cells #[.pointer none, .pointer none, .pointer none, .pointer none, .pointer none, .pointer none, .pointer none, .pointer none, .pointer none, .pointer none] 30)).alloc (.cells #[.string ⟨#[]⟩, .string ⟨#[]⟩, .slice none 0 0, .slice none 0 0, .string ⟨#[]⟩, .slice none 0 0, .slice none 0 0, .slice none 0 0, .pointer none, .pointer none, .pointer none, .pointer (some ⟨w.heap.size, 0, none⟩), .pointer none] 39)) (w.heap.size + 1) none none (some ⟨w.heap.size, 0, none⟩) :=
  { c9 := cell_new _ _ _ 9 _ (by simp), c10 := cell_new _ _ _ 10 _ (by simp), c11 := cell_new _ _ _ 11 _ (by simp), lp := (fun a h => by cases h), lq := (fun a h => by cases h), lr := (fun a h => by obtain rfl := Option.some.inj h; exact (live_old (by have := live_new w #[.pointer none, .pointer none, .pointer none, .pointer none, .pointer none, .pointer none, .pointer none, .pointer none, .pointer none, .pointer none] 30; simpa using this) _)), pq := (fun h => rfl), pr := (fun h => rfl), qr := (fun h => rfl), gr := by repeat (first | exact Grown.refl _ | apply Grown.alloc) }

set_option maxHeartbeats 1000000 in
set_option maxRecDepth 100000 in
theorem walk1 (k l : Int) (w : World) : Calls Try.prog 3 #[.int .i64 k, .int .i64 l, .bool false, .bool false, .bool true] w fun e w' => e = .returned (.bool true) ∧ Grown w w' := by
  have T := told1 w
  obtain ⟨W, hW⟩ : ∃ W, W = (w.alloc (.cells #[.pointer none, .pointer none, .pointer none, .pointer none, .pointer none, .pointer none, .pointer none, .pointer none, .pointer none, .pointer none] 30)).alloc (.cells #[.string ⟨#[]⟩, .string ⟨#[]⟩, .slice none 0 0, .slice none 0 0, .string ⟨#[]⟩, .slice none 0 0, .slice none 0 0, .slice none 0 0, .pointer none, .pointer none, .pointer none, .pointer (some ⟨w.heap.size, 0, none⟩), .pointer none] 39) := ⟨_, rfl⟩
  rw [← hW] at T
  have K1 := hid (probe_any _ k _ _ _ W T.c9 T.c10 T.c11)
  have K2 := hid (probe_any _ l _ _ _ W T.c9 T.c10 T.c11)
  have K3 := hid (at_any k none none (some ⟨w.heap.size, 0, none⟩) W)
  have K4 := hid (at_any l none none (some ⟨w.heap.size, 0, none⟩) W)
  have heq := T.eql k l
  have HG := hid T.gr
  clear T
  obtain ⟨X, hX⟩ : ∃ X, X = sel k none none (some ⟨w.heap.size, 0, none⟩) := ⟨_, rfl⟩
  obtain ⟨Y, hY⟩ : ∃ Y, Y = sel l none none (some ⟨w.heap.size, 0, none⟩) := ⟨_, rfl⟩
  rw [← hX] at K1 K3 heq
  rw [← hY] at K2 K4 heq
  have HW := hid hW
  clear hX hY hW
  go_enter Try.func3, Try.ntmps3
  go_wp2_with fail
  rw [← HW.out]
  refine K1.out.mono ?_
  rintro e w1 ⟨rfl, rfl⟩
  go_wp2_with fail
  refine K2.out.mono ?_
  rintro e w1 ⟨rfl, rfl⟩
  go_wp2_with fail
  refine K3.out.mono ?_
  rintro e w1 ⟨rfl, rfl⟩
  go_wp2_with fail
  refine K4.out.mono ?_
  rintro e w1 ⟨rfl, rfl⟩
  go_wp2
  all_goals
    go_ret
    refine ⟨?_, HG.out⟩
    first | exact rfl | exact ret_b (way3 (by assumption))

theorem told2 (w : World) : Told w ((w.alloc (.cells #[.pointer none, .pointer none, .pointer none, .pointer none, .pointer none, .pointer none, .pointer none, .pointer none, .pointer none, .pointer none] 30)).alloc (.cells #[.string ⟨#[]⟩, .string ⟨#[]⟩, .slice none 0 0, .slice none 0 0, .string ⟨#[]⟩, .slice none 0 0, .slice none 0 0, .slice none 0 0, .pointer none, .pointer none, .pointer (some ⟨w.heap.size, 0, none⟩), .pointer none, .pointer none] 39)) (w.heap.size + 1) none (some ⟨w.heap.size, 0, none⟩) none :=
  { c9 := cell_new _ _ _ 9 _ (by simp), c10 := cell_new _ _ _ 10 _ (by simp), c11 := cell_new _ _ _ 11 _ (by simp), lp := (fun a h => by cases h), lq := (fun a h => by obtain rfl := Option.some.inj h; exact (live_old (by have := live_new w #[.pointer none, .pointer none, .pointer none, .pointer none, .pointer none, .pointer none, .pointer none, .pointer none, .pointer none, .pointer none] 30; simpa using this) _)), lr := (fun a h => by cases h), pq := (fun h => rfl), pr := (fun h => rfl), qr := (fun h => by simp at h), gr := by repeat (first | exact Grown.refl _ | apply Grown.alloc) }

set_option maxHeartbeats 1000000 in
set_option maxRecDepth 100000 in
theorem walk2 (k l : Int) (w : World) : Calls Try.prog 3 #[.int .i64 k, .int .i64 l, .bool false, .bool true, .bool false] w fun e w' => e = .returned (.bool true) ∧ Grown w w' := by
  have T := told2 w
  obtain ⟨W, hW⟩ : ∃ W, W = (w.alloc (.cells #[.pointer none, .pointer none, .pointer none, .pointer none, .pointer none, .pointer none, .pointer none, .pointer none, .pointer none, .pointer none] 30)).alloc (.cells #[.string ⟨#[]⟩, .string ⟨#[]⟩, .slice none 0 0, .slice none 0 0, .string ⟨#[]⟩, .slice none 0 0, .slice none 0 0, .slice none 0 0, .pointer none, .pointer none, .pointer (some ⟨w.heap.size, 0, none⟩), .pointer none, .pointer none] 39) := ⟨_, rfl⟩
  rw [← hW] at T
  have K1 := hid (probe_any _ k _ _ _ W T.c9 T.c10 T.c11)
  have K2 := hid (probe_any _ l _ _ _ W T.c9 T.c10 T.c11)
  have K3 := hid (at_any k none (some ⟨w.heap.size, 0, none⟩) none W)
  have K4 := hid (at_any l none (some ⟨w.heap.size, 0, none⟩) none W)
  have heq := T.eql k l
  have HG := hid T.gr
  clear T
  obtain ⟨X, hX⟩ : ∃ X, X = sel k none (some ⟨w.heap.size, 0, none⟩) none := ⟨_, rfl⟩
  obtain ⟨Y, hY⟩ : ∃ Y, Y = sel l none (some ⟨w.heap.size, 0, none⟩) none := ⟨_, rfl⟩
  rw [← hX] at K1 K3 heq
  rw [← hY] at K2 K4 heq
  have HW := hid hW
  clear hX hY hW
  go_enter Try.func3, Try.ntmps3
  go_wp2_with fail
  rw [← HW.out]
  refine K1.out.mono ?_
  rintro e w1 ⟨rfl, rfl⟩
  go_wp2_with fail
  refine K2.out.mono ?_
  rintro e w1 ⟨rfl, rfl⟩
  go_wp2_with fail
  refine K3.out.mono ?_
  rintro e w1 ⟨rfl, rfl⟩
  go_wp2_with fail
  refine K4.out.mono ?_
  rintro e w1 ⟨rfl, rfl⟩
  go_wp2
  all_goals
    go_ret
    refine ⟨?_, HG.out⟩
    first | exact rfl | exact ret_b (way3 (by assumption))

theorem told3 (w : World) : Told w (((w.alloc (.cells #[.pointer none, .pointer none, .pointer none, .pointer none, .pointer none, .pointer none, .pointer none, .pointer none, .pointer none, .pointer none] 30)).alloc (.cells #[.pointer none, .pointer none, .pointer none, .pointer none, .pointer none, .pointer none, .pointer none, .pointer none, .pointer none, .pointer none] 30)).alloc (.cells #[.string ⟨#[]⟩, .string ⟨#[]⟩, .slice none 0 0, .slice none 0 0, .string ⟨#[]⟩, .slice none 0 0, .slice none 0 0, .slice none 0 0, .pointer none, .pointer none, .pointer (some ⟨w.heap.size, 0, none⟩), .pointer (some ⟨w.heap.size + 1, 0, none⟩), .pointer none] 39)) (w.heap.size + 1 + 1) none (some ⟨w.heap.size, 0, none⟩) (some ⟨w.heap.size + 1, 0, none⟩) :=
  { c9 := cell_new _ _ _ 9 _ (by simp), c10 := cell_new _ _ _ 10 _ (by simp), c11 := cell_new _ _ _ 11 _ (by simp), lp := (fun a h => by cases h), lq := (fun a h => by obtain rfl := Option.some.inj h; exact (live_old (live_old (by have := live_new w #[.pointer none, .pointer none, .pointer none, .pointer none, .pointer none, .pointer none, .pointer none, .pointer none, .pointer none, .pointer none] 30; simpa using this) _) _)), lr := (fun a h => by obtain rfl := Option.some.inj h; exact (live_old (by have := live_new (w.alloc (.cells #[.pointer none, .pointer none, .pointer none, .pointer none, .pointer none, .pointer none, .pointer none, .pointer none, .pointer none, .pointer none] 30)) #[.pointer none, .pointer none, .pointer none, .pointer none, .pointer none, .pointer none, .pointer none, .pointer none, .pointer none, .pointer none] 30; simpa using this) _)), pq := (fun h => rfl), pr := (fun h => rfl), qr := (fun h => by simp at h), gr := by repeat (first | exact Grown.refl _ | apply Grown.alloc) }

set_option maxHeartbeats 1000000 in
set_option maxRecDepth 100000 in
theorem walk3 (k l : Int) (w : World) : Calls Try.prog 3 #[.int .i64 k, .int .i64 l, .bool false, .bool true, .bool true] w fun e w' => e = .returned (.bool true) ∧ Grown w w' := by
  have T := told3 w
  obtain ⟨W, hW⟩ : ∃ W, W = ((w.alloc (.cells #[.pointer none, .pointer none, .pointer none, .pointer none, .pointer none, .pointer none, .pointer none, .pointer none, .pointer none, .pointer none] 30)).alloc (.cells #[.pointer none, .pointer none, .pointer none, .pointer none, .pointer none, .pointer none, .pointer none, .pointer none, .pointer none, .pointer none] 30)).alloc (.cells #[.string ⟨#[]⟩, .string ⟨#[]⟩, .slice none 0 0, .slice none 0 0, .string ⟨#[]⟩, .slice none 0 0, .slice none 0 0, .slice none 0 0, .pointer none, .pointer none, .pointer (some ⟨w.heap.size, 0, none⟩), .pointer (some ⟨w.heap.size + 1, 0, none⟩), .pointer none] 39) := ⟨_, rfl⟩
  rw [← hW] at T
  have K1 := hid (probe_any _ k _ _ _ W T.c9 T.c10 T.c11)
  have K2 := hid (probe_any _ l _ _ _ W T.c9 T.c10 T.c11)
  have K3 := hid (at_any k none (some ⟨w.heap.size, 0, none⟩) (some ⟨w.heap.size + 1, 0, none⟩) W)
  have K4 := hid (at_any l none (some ⟨w.heap.size, 0, none⟩) (some ⟨w.heap.size + 1, 0, none⟩) W)
  have heq := T.eql k l
  have HG := hid T.gr
  clear T
  obtain ⟨X, hX⟩ : ∃ X, X = sel k none (some ⟨w.heap.size, 0, none⟩) (some ⟨w.heap.size + 1, 0, none⟩) := ⟨_, rfl⟩
  obtain ⟨Y, hY⟩ : ∃ Y, Y = sel l none (some ⟨w.heap.size, 0, none⟩) (some ⟨w.heap.size + 1, 0, none⟩) := ⟨_, rfl⟩
  rw [← hX] at K1 K3 heq
  rw [← hY] at K2 K4 heq
  have HW := hid hW
  clear hX hY hW
  go_enter Try.func3, Try.ntmps3
  go_wp2_with fail
  rw [← HW.out]
  refine K1.out.mono ?_
  rintro e w1 ⟨rfl, rfl⟩
  go_wp2_with fail
  refine K2.out.mono ?_
  rintro e w1 ⟨rfl, rfl⟩
  go_wp2_with fail
  refine K3.out.mono ?_
  rintro e w1 ⟨rfl, rfl⟩
  go_wp2_with fail
  refine K4.out.mono ?_
  rintro e w1 ⟨rfl, rfl⟩
  go_wp2
  all_goals
    go_ret
    refine ⟨?_, HG.out⟩
    first | exact rfl | exact ret_b (way3 (by assumption))

theorem told4 (w : World) : Told w ((w.alloc (.cells #[.pointer none, .pointer none, .pointer none, .pointer none, .pointer none, .pointer none, .pointer none, .pointer none, .pointer none, .pointer none] 30)).alloc (.cells #[.string ⟨#[]⟩, .string ⟨#[]⟩, .slice none 0 0, .slice none 0 0, .string ⟨#[]⟩, .slice none 0 0, .slice none 0 0, .slice none 0 0, .pointer none, .pointer (some ⟨w.heap.size, 0, none⟩), .pointer none, .pointer none, .pointer none] 39)) (w.heap.size + 1) (some ⟨w.heap.size, 0, none⟩) none none :=
  { c9 := cell_new _ _ _ 9 _ (by simp), c10 := cell_new _ _ _ 10 _ (by simp), c11 := cell_new _ _ _ 11 _ (by simp), lp := (fun a h => by obtain rfl := Option.some.inj h; exact (live_old (by have := live_new w #[.pointer none, .pointer none, .pointer none, .pointer none, .pointer none, .pointer none, .pointer none, .pointer none, .pointer none, .pointer none] 30; simpa using this) _)), lq := (fun a h => by cases h), lr := (fun a h => by cases h), pq := (fun h => by simp at h), pr := (fun h => by simp at h), qr := (fun h => rfl), gr := by repeat (first | exact Grown.refl _ | apply Grown.alloc) }

set_option maxHeartbeats 1000000 in
set_option maxRecDepth 100000 in
theorem walk4 (k l : Int) (w : World) : Calls Try.prog 3 #[.int .i64 k, .int .i64 l, .bool true, .bool false, .bool false] w fun e w' => e = .returned (.bool true) ∧ Grown w w' := by
  have T := told4 w
  obtain ⟨W, hW⟩ : ∃ W, W = (w.alloc (.cells #[.pointer none, .pointer none, .pointer none, .pointer none, .pointer none, .pointer none, .pointer none, .pointer none, .pointer none, .pointer none] 30)).alloc (.cells #[.string ⟨#[]⟩, .string ⟨#[]⟩, .slice none 0 0, .slice none 0 0, .string ⟨#[]⟩, .slice none 0 0, .slice none 0 0, .slice none 0 0, .pointer none, .pointer (some ⟨w.heap.size, 0, none⟩), .pointer none, .pointer none, .pointer none] 39) := ⟨_, rfl⟩
  rw [← hW] at T
  have K1 := hid (probe_any _ k _ _ _ W T.c9 T.c10 T.c11)
  have K2 := hid (probe_any _ l _ _ _ W T.c9 T.c10 T.c11)
  have K3 := hid (at_any k (some ⟨w.heap.size, 0, none⟩) none none W)
  have K4 := hid (at_any l (some ⟨w.heap.size, 0, none⟩) none none W)
  have heq := T.eql k l
  have HG := hid T.gr
  clear T
  obtain ⟨X, hX⟩ : ∃ X, X = sel k (some ⟨w.heap.size, 0, none⟩) none none := ⟨_, rfl⟩
  obtain ⟨Y, hY⟩ : ∃ Y, Y = sel l (some ⟨w.heap.size, 0, none⟩) none none := ⟨_, rfl⟩
  rw [← hX] at K1 K3 heq
  rw [← hY] at K2 K4 heq
  have HW := hid hW
  clear hX hY hW
  go_enter Try.func3, Try.ntmps3
  go_wp2_with fail
  rw [← HW.out]
  refine K1.out.mono ?_
  rintro e w1 ⟨rfl, rfl⟩
  go_wp2_with fail
  refine K2.out.mono ?_
  rintro e w1 ⟨rfl, rfl⟩
  go_wp2_with fail
  refine K3.out.mono ?_
  rintro e w1 ⟨rfl, rfl⟩
  go_wp2_with fail
  refine K4.out.mono ?_
  rintro e w1 ⟨rfl, rfl⟩
  go_wp2
  all_goals
    go_ret
    refine ⟨?_, HG.out⟩
    first | exact rfl | exact ret_b (way3 (by assumption))

theorem told5 (w : World) : Told w (((w.alloc (.cells #[.pointer none, .pointer none, .pointer none, .pointer none, .pointer none, .pointer none, .pointer none, .pointer none, .pointer none, .pointer none] 30)).alloc (.cells #[.pointer none, .pointer none, .pointer none, .pointer none, .pointer none, .pointer none, .pointer none, .pointer none, .pointer none, .pointer none] 30)).alloc (.cells #[.string ⟨#[]⟩, .string ⟨#[]⟩, .slice none 0 0, .slice none 0 0, .string ⟨#[]⟩, .slice none 0 0, .slice none 0 0, .slice none 0 0, .pointer none, .pointer (some ⟨w.heap.size, 0, none⟩), .pointer none, .pointer (some ⟨w.heap.size + 1, 0, none⟩), .pointer none] 39)) (w.heap.size + 1 + 1) (some ⟨w.heap.size, 0, none⟩) none (some ⟨w.heap.size + 1, 0, none⟩) :=
  { c9 := cell_new _ _ _ 9 _ (by simp), c10 := cell_new _ _ _ 10 _ (by simp), c11 := cell_new _ _ _ 11 _ (by simp), lp := (fun a h => by obtain rfl := Option.some.inj h; exact (live_old (live_old (by have := live_new w #[.pointer none, .pointer none, .pointer none, .pointer none, .pointer none, .pointer none, .pointer none, .pointer none, .pointer none, .pointer none] 30; simpa using this) _) _)), lq := (fun a h => by cases h), lr := (fun a h => by obtain rfl := Option.some.inj h; exact (live_old (by have := live_new (w.alloc (.cells #[.pointer none, .pointer none, .pointer none, .pointer none, .pointer none, .pointer none, .pointer none, .pointer none, .pointer none, .pointer none] 30)) #[.pointer none, .pointer none, .pointer none, .pointer none, .pointer none, .pointer none, .pointer none, .pointer none, .pointer none, .pointer none] 30; simpa using this) _)), pq := (fun h => by simp at h), pr := (fun h => by simp at h), qr := (fun h => rfl), gr := by repeat (first | exact Grown.refl _ | apply Grown.alloc) }

set_option maxHeartbeats 1000000 in
set_option maxRecDepth 100000 in
theorem walk5 (k l : Int) (w : World) : Calls Try.prog 3 #[.int .i64 k, .int .i64 l, .bool true, .bool false, .bool true] w fun e w' => e = .returned (.bool true) ∧ Grown w w' := by
  have T := told5 w
  obtain ⟨W, hW⟩ : ∃ W, W = ((w.alloc (.cells #[.pointer none, .pointer none, .pointer none, .pointer none, .pointer none, .pointer none, .pointer none, .pointer none, .pointer none, .pointer none] 30)).alloc (.cells #[.pointer none, .pointer none, .pointer none, .pointer none, .pointer none, .pointer none, .pointer none, .pointer none, .pointer none, .pointer none] 30)).alloc (.cells #[.string ⟨#[]⟩, .string ⟨#[]⟩, .slice none 0 0, .slice none 0 0, .string ⟨#[]⟩, .slice none 0 0, .slice none 0 0, .slice none 0 0, .pointer none, .pointer (some ⟨w.heap.size, 0, none⟩), .pointer none, .pointer (some ⟨w.heap.size + 1, 0, none⟩), .pointer none] 39) := ⟨_, rfl⟩
  rw [← hW] at T
  have K1 := hid (probe_any _ k _ _ _ W T.c9 T.c10 T.c11)
  have K2 := hid (probe_any _ l _ _ _ W T.c9 T.c10 T.c11)
  have K3 := hid (at_any k (some ⟨w.heap.size, 0, none⟩) none (some ⟨w.heap.size + 1, 0, none⟩) W)
  have K4 := hid (at_any l (some ⟨w.heap.size, 0, none⟩) none (some ⟨w.heap.size + 1, 0, none⟩) W)
  have heq := T.eql k l
  have HG := hid T.gr
  clear T
  obtain ⟨X, hX⟩ : ∃ X, X = sel k (some ⟨w.heap.size, 0, none⟩) none (some ⟨w.heap.size + 1, 0, none⟩) := ⟨_, rfl⟩
  obtain ⟨Y, hY⟩ : ∃ Y, Y = sel l (some ⟨w.heap.size, 0, none⟩) none (some ⟨w.heap.size + 1, 0, none⟩) := ⟨_, rfl⟩
  rw [← hX] at K1 K3 heq
  rw [← hY] at K2 K4 heq
  have HW := hid hW
  clear hX hY hW
  go_enter Try.func3, Try.ntmps3
  go_wp2_with fail
  rw [← HW.out]
  refine K1.out.mono ?_
  rintro e w1 ⟨rfl, rfl⟩
  go_wp2_with fail
  refine K2.out.mono ?_
  rintro e w1 ⟨rfl, rfl⟩
  go_wp2_with fail
  refine K3.out.mono ?_
  rintro e w1 ⟨rfl, rfl⟩
  go_wp2_with fail
  refine K4.out.mono ?_
  rintro e w1 ⟨rfl, rfl⟩
  go_wp2
  all_goals
    go_ret
    refine ⟨?_, HG.out⟩
    first | exact rfl | exact ret_b (way3 (by assumption))

theorem told6 (w : World) : Told w (((w.alloc (.cells #[.pointer none, .pointer none, .pointer none, .pointer none, .pointer none, .pointer none, .pointer none, .pointer none, .pointer none, .pointer none] 30)).alloc (.cells #[.pointer none, .pointer none, .pointer none, .pointer none, .pointer none, .pointer none, .pointer none, .pointer none, .pointer none, .pointer none] 30)).alloc (.cells #[.string ⟨#[]⟩, .string ⟨#[]⟩, .slice none 0 0, .slice none 0 0, .string ⟨#[]⟩, .slice none 0 0, .slice none 0 0, .slice none 0 0, .pointer none, .pointer (some ⟨w.heap.size, 0, none⟩), .pointer (some ⟨w.heap.size + 1, 0, none⟩), .pointer none, .pointer none] 39)) (w.heap.size + 1 + 1) (some ⟨w.heap.size, 0, none⟩) (some ⟨w.heap.size + 1, 0, none⟩) none :=
  { c9 := cell_new _ _ _ 9 _ (by simp), c10 := cell_new _ _ _ 10 _ (by simp), c11 := cell_new _ _ _ 11 _ (by simp), lp := (fun a h => by obtain rfl := Option.some.inj h; exact (live_old (live_old (by have := live_new w #[.pointer none, .pointer none, .pointer none, .pointer none, .pointer none, .pointer none, .pointer none, .pointer none, .pointer none, .pointer none] 30; simpa using this) _) _)), lq := (fun a h => by obtain rfl := Option.some.inj h; exact (live_old (by have := live_new (w.alloc (.cells #[.pointer none, .pointer none, .pointer none, .pointer none, .pointer none, .pointer none, .pointer none, .pointer none, .pointer none, .pointer none] 30)) #[.pointer none, .pointer none, .pointer none, .pointer none, .pointer none, .pointer none, .pointer none, .pointer none, .pointer none, .pointer none] 30; simpa using this) _)), lr := (fun a h => by cases h), pq := (fun h => by simp at h), pr := (fun h => by simp at h), qr := (fun h => by simp at h), gr := by repeat (first | exact Grown.refl _ | apply Grown.alloc) }

set_option maxHeartbeats 1000000 in
set_option maxRecDepth 100000 in
theorem walk6 (k l : Int) (w : World) : Calls Try.prog 3 #[.int .i64 k, .int .i64 l, .bool true, .bool true, .bool false] w fun e w' => e = .returned (.bool true) ∧ Grown w w' := by
  have T := told6 w
  obtain ⟨W, hW⟩ : ∃ W, W = ((w.alloc (.cells #[.pointer none, .pointer none, .pointer none, .pointer none, .pointer none, .pointer none, .pointer none, .pointer none, .pointer none, .pointer none] 30)).alloc (.cells #[.pointer none, .pointer none, .pointer none, .pointer none, .pointer none, .pointer none, .pointer none, .pointer none, .pointer none, .pointer none] 30)).alloc (.cells #[.string ⟨#[]⟩, .string ⟨#[]⟩, .slice none 0 0, .slice none 0 0, .string ⟨#[]⟩, .slice none 0 0, .slice none 0 0, .slice none 0 0, .pointer none, .pointer (some ⟨w.heap.size, 0, none⟩), .pointer (some ⟨w.heap.size + 1, 0, none⟩), .pointer none, .pointer none] 39) := ⟨_, rfl⟩
  rw [← hW] at T
  have K1 := hid (probe_any _ k _ _ _ W T.c9 T.c10 T.c11)
  have K2 := hid (probe_any _ l _ _ _ W T.c9 T.c10 T.c11)
  have K3 := hid (at_any k (some ⟨w.heap.size, 0, none⟩) (some ⟨w.heap.size + 1, 0, none⟩) none W)
  have K4 := hid (at_any l (some ⟨w.heap.size, 0, none⟩) (some ⟨w.heap.size + 1, 0, none⟩) none W)
  have heq := T.eql k l
  have HG := hid T.gr
  clear T
  obtain ⟨X, hX⟩ : ∃ X, X = sel k (some ⟨w.heap.size, 0, none⟩) (some ⟨w.heap.size + 1, 0, none⟩) none := ⟨_, rfl⟩
  obtain ⟨Y, hY⟩ : ∃ Y, Y = sel l (some ⟨w.heap.size, 0, none⟩) (some ⟨w.heap.size + 1, 0, none⟩) none := ⟨_, rfl⟩
  rw [← hX] at K1 K3 heq
  rw [← hY] at K2 K4 heq
  have HW := hid hW
  clear hX hY hW
  go_enter Try.func3, Try.ntmps3
  go_wp2_with fail
  rw [← HW.out]
  refine K1.out.mono ?_
  rintro e w1 ⟨rfl, rfl⟩
  go_wp2_with fail
  refine K2.out.mono ?_
  rintro e w1 ⟨rfl, rfl⟩
  go_wp2_with fail
  refine K3.out.mono ?_
  rintro e w1 ⟨rfl, rfl⟩
  go_wp2_with fail
  refine K4.out.mono ?_
  rintro e w1 ⟨rfl, rfl⟩
  go_wp2
  all_goals
    go_ret
    refine ⟨?_, HG.out⟩
    first | exact rfl | exact ret_b (way3 (by assumption))

theorem told7 (w : World) : Told w ((((w.alloc (.cells #[.pointer none, .pointer none, .pointer none, .pointer none, .pointer none, .pointer none, .pointer none, .pointer none, .pointer none, .pointer none] 30)).alloc (.cells #[.pointer none, .pointer none, .pointer none, .pointer none, .pointer none, .pointer none, .pointer none, .pointer none, .pointer none, .pointer none] 30)).alloc (.cells #[.pointer none, .pointer none, .pointer none, .pointer none, .pointer none, .pointer none, .pointer none, .pointer none, .pointer none, .pointer none] 30)).alloc (.cells #[.string ⟨#[]⟩, .string ⟨#[]⟩, .slice none 0 0, .slice none 0 0, .string ⟨#[]⟩, .slice none 0 0, .slice none 0 0, .slice none 0 0, .pointer none, .pointer (some ⟨w.heap.size, 0, none⟩), .pointer (some ⟨w.heap.size + 1, 0, none⟩), .pointer (some ⟨w.heap.size + 1 + 1, 0, none⟩), .pointer none] 39)) (w.heap.size + 1 + 1 + 1) (some ⟨w.heap.size, 0, none⟩) (some ⟨w.heap.size + 1, 0, none⟩) (some ⟨w.heap.size + 1 + 1, 0, none⟩) :=
  { c9 := cell_new _ _ _ 9 _ (by simp), c10 := cell_new _ _ _ 10 _ (by simp), c11 := cell_new _ _ _ 11 _ (by simp), lp := (fun a h => by obtain rfl := Option.some.inj h; exact (live_old (live_old (live_old (by have := live_new w #[.pointer none, .pointer none, .pointer none, .pointer none, .pointer none, .pointer none, .pointer none, .pointer none, .pointer none, .pointer none] 30; simpa using this) _) _) _)), lq := (fun a h => by obtain rfl := Option.some.inj h; exact (live_old (live_old (by have := live_new (w.alloc (.cells #[.pointer none, .pointer none, .pointer none, .pointer none, .pointer none, .pointer none, .pointer none, .pointer none, .pointer none, .pointer none] 30)) #[.pointer none, .pointer none, .pointer none, .pointer none, .pointer none, .pointer none, .pointer none, .pointer none, .pointer none, .pointer none] 30; simpa using this) _) _)), lr := (fun a h => by obtain rfl := Option.some.inj h; exact (live_old (by have := live_new ((w.alloc (.cells #[.pointer none, .pointer none, .pointer none, .pointer none, .pointer none, .pointer none, .pointer none, .pointer none, .pointer none, .pointer none] 30)).alloc (.cells #[.pointer none, .pointer none, .pointer none, .pointer none, .pointer none, .pointer none, .pointer none, .pointer none, .pointer none, .pointer none] 30)) #[.pointer none, .pointer none, .pointer none, .pointer none, .pointer none, .pointer none, .pointer none, .pointer none, .pointer none, .pointer none] 30; simpa using this) _)), pq := (fun h => by simp at h), pr := (fun h => by simp at h), qr := (fun h => by simp at h), gr := by repeat (first | exact Grown.refl _ | apply Grown.alloc) }

set_option maxHeartbeats 1000000 in
set_option maxRecDepth 100000 in
theorem walk7 (k l : Int) (w : World) : Calls Try.prog 3 #[.int .i64 k, .int .i64 l, .bool true, .bool true, .bool true] w fun e w' => e = .returned (.bool true) ∧ Grown w w' := by
  have T := told7 w
  obtain ⟨W, hW⟩ : ∃ W, W = (((w.alloc (.cells #[.pointer none, .pointer none, .pointer none, .pointer none, .pointer none, .pointer none, .pointer none, .pointer none, .pointer none, .pointer none] 30)).alloc (.cells #[.pointer none, .pointer none, .pointer none, .pointer none, .pointer none, .pointer none, .pointer none, .pointer none, .pointer none, .pointer none] 30)).alloc (.cells #[.pointer none, .pointer none, .pointer none, .pointer none, .pointer none, .pointer none, .pointer none, .pointer none, .pointer none, .pointer none] 30)).alloc (.cells #[.string ⟨#[]⟩, .string ⟨#[]⟩, .slice none 0 0, .slice none 0 0, .string ⟨#[]⟩, .slice none 0 0, .slice none 0 0, .slice none 0 0, .pointer none, .pointer (some ⟨w.heap.size, 0, none⟩), .pointer (some ⟨w.heap.size + 1, 0, none⟩), .pointer (some ⟨w.heap.size + 1 + 1, 0, none⟩), .pointer none] 39) := ⟨_, rfl⟩
  rw [← hW] at T
  have K1 := hid (probe_any _ k _ _ _ W T.c9 T.c10 T.c11)
  have K2 := hid (probe_any _ l _ _ _ W T.c9 T.c10 T.c11)
  have K3 := hid (at_any k (some ⟨w.heap.size, 0, none⟩) (some ⟨w.heap.size + 1, 0, none⟩) (some ⟨w.heap.size + 1 + 1, 0, none⟩) W)
  have K4 := hid (at_any l (some ⟨w.heap.size, 0, none⟩) (some ⟨w.heap.size + 1, 0, none⟩) (some ⟨w.heap.size + 1 + 1, 0, none⟩) W)
  have heq := T.eql k l
  have HG := hid T.gr
  clear T
  obtain ⟨X, hX⟩ : ∃ X, X = sel k (some ⟨w.heap.size, 0, none⟩) (some ⟨w.heap.size + 1, 0, none⟩) (some ⟨w.heap.size + 1 + 1, 0, none⟩) := ⟨_, rfl⟩
  obtain ⟨Y, hY⟩ : ∃ Y, Y = sel l (some ⟨w.heap.size, 0, none⟩) (some ⟨w.heap.size + 1, 0, none⟩) (some ⟨w.heap.size + 1 + 1, 0, none⟩) := ⟨_, rfl⟩
  rw [← hX] at K1 K3 heq
  rw [← hY] at K2 K4 heq
  have HW := hid hW
  clear hX hY hW
  go_enter Try.func3, Try.ntmps3
  go_wp2_with fail
  rw [← HW.out]
  refine K1.out.mono ?_
  rintro e w1 ⟨rfl, rfl⟩
  go_wp2_with fail
  refine K2.out.mono ?_
  rintro e w1 ⟨rfl, rfl⟩
  go_wp2_with fail
  refine K3.out.mono ?_
  rintro e w1 ⟨rfl, rfl⟩
  go_wp2_with fail
  refine K4.out.mono ?_
  rintro e w1 ⟨rfl, rfl⟩
  go_wp2
  all_goals
    go_ret
    refine ⟨?_, HG.out⟩
    first | exact rfl | exact ret_b (way3 (by assumption))

theorem probe_walk (k l : Int) (b2 b3 b4 : Bool) (w : World) :
    Calls Try.prog 3 #[.int .i64 k, .int .i64 l, .bool b2, .bool b3, .bool b4] w fun e w' => e = .returned (.bool true) ∧ Grown w w' := by
  cases b2 <;> cases b3 <;> cases b4
  · exact walk0 k l w
  · exact walk1 k l w
  · exact walk2 k l w
  · exact walk3 k l w
  · exact walk4 k l w
  · exact walk5 k l w
  · exact walk6 k l w
  · exact walk7 k l w
end Go.Proofs.Qxb6612783a
