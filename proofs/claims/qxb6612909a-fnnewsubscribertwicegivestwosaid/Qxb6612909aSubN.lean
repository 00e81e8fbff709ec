/- NewSubscriber (15), ZZSubscriberDone (16). -/
import Derived.Test.Qxb6612909aSubW
import Derived.Conc.SmallLaws
namespace Go.Proofs.Qxb6612909a
open Go.RowKit
set_option linter.unusedVariables false

/-- A Subscriber's cells, fresh. -/
def subCells (u v x : U) (ex : Int) (s p : ByteArray) (c : Nat) : Array Value := #[.string u.sc, .string u.us, .string u.pw, .string u.ho, .int .i64 u.po, .slice u.a5 u.n5 u.c5, .slice u.a6 u.n6 u.c6, .string u.op, .string v.sc, .string v.us, .string v.pw, .string v.ho, .int .i64 v.po, .slice v.a5 v.n5 v.c5, .slice v.a6 v.n6 v.c6, .string v.op, .string x.sc, .string x.us, .string x.pw, .string x.ho, .int .i64 x.po, .slice x.a5 x.n5 x.c5, .slice x.a6 x.n6 x.c6, .string x.op, .int .u32 ex, .string s, .string p, .nilFunc, .nilFunc, .chan (some c), Value.int IntKind.i32 0, Value.int IntKind.u32 0, Value.pointer none, Value.bool false, Value.int IntKind.u8 0, Value.int IntKind.u8 0, Value.int IntKind.u8 0, Value.int IntKind.u8 0, Value.int IntKind.u8 0, Value.int IntKind.u8 0, Value.int IntKind.u8 0, Value.int IntKind.u8 0, Value.int IntKind.u8 0, Value.int IntKind.u8 0, Value.int IntKind.u8 0, Value.int IntKind.u8 0, Value.int IntKind.u8 0, Value.int IntKind.u8 0, Value.int IntKind.u8 0, Value.int IntKind.u8 0, Value.int IntKind.u8 0, Value.int IntKind.u8 0, Value.int IntKind.u8 0, Value.int IntKind.u8 0, Value.int IntKind.u8 0, Value.int IntKind.u8 0, Value.int IntKind.u8 0, Value.int IntKind.u8 0, Value.int IntKind.u8 0, Value.int IntKind.u8 0, Value.int IntKind.u8 0, Value.int IntKind.u8 0, Value.int IntKind.u8 0, Value.int IntKind.u8 0, Value.int IntKind.u8 0, Value.int IntKind.u8 0, Value.bool false, Value.int IntKind.u64 0, Value.int IntKind.i64 0, Value.pointer none, Value.int IntKind.u64 0, Value.int IntKind.i64 0, Value.pointer none, Value.bool false, Value.int IntKind.u64 0, Value.bool false, Value.slice none 0 0, Value.map none, Value.pointer none, Value.int IntKind.u64 0, Value.int IntKind.i64 0, Value.pointer none, Value.int IntKind.u64 0, Value.int IntKind.u64 0, Value.int IntKind.i64 0, Value.pointer none, Value.bool false, Value.bool false, Value.bool false, Value.bool false, Value.nilIface]

/-- A fresh Subscriber in block b, its channel in block c. -/
structure Sub (u v x : U) (ex : Int) (s p : ByteArray) (b c : Nat) (w : World) : Prop where
  lt : c < b
  row : w.heap[b]? = some (.cells (subCells u v x ex s p c) 82 (0, 0))

theorem Sub.bnd {u v x : U} {ex : Int} {s p : ByteArray} {b c : Nat} {w : World} (h : Sub u v x ex s p b c w) : b < w.heap.size := (Array.getElem?_eq_some_iff.1 h.row).1

theorem Sub.kept {u v x : U} {ex : Int} {s p : ByteArray} {b c : Nat} {w w' : World} (h : Sub u v x ex s p b c w) (hb : Below w.heap.size w w') : Sub u v x ex s p b c w' :=
  ⟨h.lt, (hb.block b h.bnd).trans h.row⟩

set_option maxHeartbeats 1000000 in
set_option maxRecDepth 100000 in
theorem sub_build (u v x : U) (ex : Int) (s p : ByteArray) (c : Nat) (W : World) : (Instr.build 82 #[(0, .agg (cfg u v x ex s p)), (1, .chan (some c))]).run Try.prog W = .ok (.agg (subCells u v x ex s p c)) W :=
  run_build W 82 _ _ (by kernel_rfl)

/-- What holds at every step of NewSubscriber's region: the box is at k. -/
def S15 (cs : Array Value) (k : Nat) (W1 W : World) : Prop := (loadVar 44 ⟨k, 0, none⟩).run Try.prog W = .ok (.agg cs) W ∧ Hid (Below (k + 1) W1 W) ∧ Hid (W.heap[k]? = some (.cells cs 44 (0, 0)) ∧ cs.size = 29)

theorem S15.mk {cs : Array Value} {k : Nat} {W1 W : World} (hb : Below (k + 1) W1 W) (hr : W.heap[k]? = some (.cells cs 44 (0, 0))) (hs : cs.size = 29) : S15 cs k W1 W :=
  ⟨run_loadVar_row W k 44 44 cs (0, 0) _ hr Try.underlying44 rfl (by rw [hs]; exact info44), hb, hr, hs⟩

theorem S15.call {cs : Array Value} {k : Nat} {W1 W W' : World} (h : S15 cs k W1 W) (hb : Below W.heap.size W W') : S15 cs k W1 W' := by
  obtain ⟨h0, h1, h2, h3⟩ := h
  have hlt : k < W.heap.size := (Array.getElem?_eq_some_iff.1 h2).1
  exact S15.mk (h1.out.trans (hb.mono hlt)) ((hb.block k hlt).trans h2) h3

theorem S15.alloc {cs : Array Value} {k : Nat} {W1 W : World} (h : S15 cs k W1 W.drew) {o : Obj} : S15 cs k W1 (W.alloc o).drew :=
  have h0 := (Below.refl W.heap.size W).alloc (Nat.le_refl _) o
  have h1 : Below W.drew.heap.size W.drew (W.alloc o).drew := ⟨h0.os, h0.tape, h0.output, h0.size, h0.block⟩
  h.call h1

attribute [-go_sem] Instr.build loadVar in
set_option maxHeartbeats 4000000 in
set_option maxRecDepth 100000 in
theorem newSubscriber_any (u v x : U) (ex : Int) (s p : ByteArray) (w : World) :
    Calls Try.prog 15 #[.agg (cfg u v x ex s p)] w fun e w' => ∃ b c, e = .returned (.pointer (some ⟨b, 0, none⟩)) ∧ Sub u v x ex s p b c w' ∧ w.heap.size ≤ c ∧ Below w.heap.size w w' := by
  have hmc : ∀ W : World, (Instr.makeChan 48 (.int .i64 0)).run Try.prog W = .ok (.chan (some W.heap.size)) (W.alloc (.chan 0 #[] false 0 0 false)) := fun W => by
    simp [Instr.makeChan, go_sem]
  have hbd := sub_build u v x ex s p
  have hcs : Hid ((cfg u v x ex s p).size = 29) := rfl
  go_enter Try.func15, Try.ntmps15
  go_wp2
  generalize hW1 : World.alloc w _ = W1
  have HS : Unit → S15 (cfg u v x ex s p) w.heap.size W1 W1.drew := by
    intro _
    refine S15.call (W := W1) ?_ ((Below.refl W1.heap.size W1).drew)
    subst hW1
    exact S15.mk (Below.refl _ _) (alloc_heap _ _) hcs.out
  go_region_held3 (fun W => (loadVar 44 ⟨w.heap.size, 0, none⟩).run Try.prog W = .ok (.agg (cfg u v x ex s p)) W ∧ Hid (Below (w.heap.size + 1) W1 W) ∧ Hid (W.heap[w.heap.size]? = some (.cells (cfg u v x ex s p) 44 (0, 0)) ∧ (cfg u v x ex s p).size = 29))
    ((show S15 (cfg u v x ex s p) w.heap.size W1 _; first | (with_reducible exact HS ()) | ((with_reducible refine S15.alloc ?_); assumption)))
    (fail)
  rename_i hH
  have B1 : Hid (Below w.heap.size w W1) := by
    rw [← hW1]
    exact (Below.refl _ _).alloc (Nat.le_refl _) _
  clear hH HS hW1 hbd hmc
  go_wp2
  go_ret
  have B2 := B1.out.alloc B1.out.size (.chan 0 #[] false 0 0 false)
  have B3 := (B2.alloc B2.size (.cells (subCells u v x ex s p W1.heap.size) 82)).drew
  exact ⟨W1.heap.size + 1, W1.heap.size, rfl, ⟨Nat.lt_succ_self _, alloc2_heap W1 _ _⟩, B1.out.size, B3⟩

theorem Sub.done {u v x : U} {ex : Int} {s p : ByteArray} {b c : Nat} {w : World} (h : Sub u v x ex s p b c w) : w.cell? ⟨b, 29, none⟩ = some (.chan (some c)) := by
  simp [World.cell?, h.row, subCells]

set_option maxHeartbeats 1000000 in
set_option maxRecDepth 100000 in
theorem done_any (b c : Nat) (w : World) (h : w.cell? ⟨b, 29, none⟩ = some (.chan (some c))) :
    Calls Try.prog 16 #[.pointer (some ⟨b, 0, none⟩)] w fun e w' => e = .returned (.chan (some c)) ∧ w = w' := by
  go_enter Try.func16, Try.ntmps16
  go_wp2
  go_ret
  exact ⟨rfl, rfl⟩
end Go.Proofs.Qxb6612909a
