/- get (25) of number 0. -/
import Derived.Test.Qxb6612640aRecSet
import Derived.Test.Qxb6612640aRecSlot
namespace Go.Proofs.Qxb6612640a
open Go.RowKit
set_option linter.unusedVariables false

/-- A record of one number: its head says width, and that its words ms lie from word hw on. -/
structure Rec (ws ms : List Nat) (width hw n m : Nat) (b : Bool) : Prop where
  len : ws.length = n
  n_eq : n = hw + m
  m_eq : ms.length = m
  hw1 : 1 ≤ hw
  hw8 : hw ≤ 8
  m_le : m ≤ 65536
  w0 : byteOf ws 0 = width
  w1 : 1 ≤ width
  w8 : width ≤ 8
  room : 1 + 4 * width ≤ 8 * hw
  S : tailNum ws (1 + 2 * width) width = 2 * hw
  E : tailNum ws (1 + 3 * width) width = 2 * (hw + m) + if b then 1 else 0
  at' : ∀ j, j < m → ws[hw + j]? = some (ms.getD j 0)

set_option maxHeartbeats 1000000 in
set_option maxRecDepth 100000 in
theorem get_any (B gr gz base g l c width hw n m : Nat) (s b : Bool) (ws ms : List Nat) (w : World) (hr : Rec ws ms width hw n m b) (hl : Lie w gr n ws) (hz : ZAt w gz s (.slice (some ⟨g, 0, none⟩) l c))
    (hown : w.ownsRow base 51 1 (.slice (some ⟨g, 0, none⟩) 0 c) 0 []) (hlc : l ≤ c) (hB1 : B ≤ base) (hB2 : B ≤ gz) (hbase : base ≤ w.heap.size) :
    Calls Try.prog 25 #[.slice (some ⟨gr, 0, none⟩) n n, .int .i64 0, .pointer (some ⟨gz, 0, none⟩)] w fun e w' => e = .returned (.pointer (some ⟨gz, 0, none⟩)) ∧
      ∃ g' c', ZAt w' gz (b && decide (0 < trimLen (fun j => ms.getD j 0) m)) (.slice (some ⟨g', 0, none⟩) (trimLen (fun j => ms.getD j 0) m) c') ∧
        (∀ j, j < m → w'.cell? ⟨g', j, none⟩ = some (.int .u64 (ms.getD j 0 : Nat))) ∧ Below B w w' := by
  have hn := hr.n_eq
  have h1 := hr.hw1
  have h8 := hr.hw8
  have hm := hr.m_le
  have hmod : (2 * (hw + m) + if b then 1 else 0) % 2 = if b then 1 else 0 := by cases b <;> simp <;> omega
  have hEb : (2 * (hw + m) + if b then 1 else 0) ≤ 1099511627776 := by cases b <;> simp <;> omega
  have hdiv : (2 * (hw + m) + if b then 1 else 0) / 2 = hw + m := by cases b <;> simp <;> omega
  have KS := hid (slot_any gr n width (2 * hw) _ b ws w hl (by omega) (by omega) hr.w0 hr.w1 hr.w8 (by have := hr.room; omega) hr.S hr.E (by omega) hEb hmod)
  rw [hdiv, show 2 * hw / 2 = hw by omega] at KS
  clear hmod hEb hdiv
  subst hn
  by_cases h0 : m = 0
  · have KW := fun ad c2 => hid (setWords_any B gz base g l c m c2 ad s b ms w hz hown hlc hr.m_eq (fun j u hj => by
      have := (List.getElem?_eq_some_iff.1 hj).1
      rw [wc_length, hr.m_eq] at this
      omega) hm hB1 hB2 hbase)
    have HW := hid KW
    subst h0
    clear KW hz hown hl hr
    go_enter Try.func25, Try.ntmps25
    go_wp2_with (go_at_call 39; refine KS.out.mono ?_; rintro e w' ⟨rfl, rfl⟩)
    refine (HW.out ⟨gr, 0, none⟩ 0).out.mono ?_
    rintro e w1 ⟨rfl, g', c', z1, hc1, B1⟩
    go_wp2_with fail
    go_ret
    exact ⟨rfl, g', c', z1, hc1, B1⟩
  · have KW := hid (setWords_any B gz base g l c m m ⟨gr, hw, none⟩ s b ms w hz hown hlc hr.m_eq (fun j u hj => by
      have hjm : j < m := by
        have := (List.getElem?_eq_some_iff.1 hj).1
        rw [wc_length, hr.m_eq] at this
        exact this
      rw [getD_of hr.m_eq hjm] at hj
      rw [Addr.add_lit, hl.2 _ _ (hr.at' j hjm)]
      exact hj) hm hB1 hB2 hbase)
    clear hz hown hl hr
    go_enter Try.func25, Try.ntmps25
    go_wp2_with (go_at_call 39; refine KS.out.mono ?_; rintro e w' ⟨rfl, rfl⟩)
    refine KW.out.mono ?_
    rintro e w1 ⟨rfl, g', c', z1, hc1, B1⟩
    have HC := hid hc1
    clear hc1
    go_wp2_with fail
    go_ret
    exact ⟨rfl, g', c', z1, HC.out, B1⟩
end Go.Proofs.Qxb6612640a
