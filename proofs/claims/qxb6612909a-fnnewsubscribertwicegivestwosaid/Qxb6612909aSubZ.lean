/- zzBytes (12). -/
import Derived.Test.Qxb6612909aSubT
namespace Go.Proofs.Qxb6612909a
open Go.RowKit
set_option linter.unusedVariables false

/-- false, or: true, and there are few of each. -/
def Zz (u v x : U) (e : Ending) : Prop := e = .returned (.bool false) ∨ (e = .returned (.bool true) ∧ u.Few ∧ v.Few ∧ x.Few)

theorem start_q {N : Nat} {z : Int} (h0 : 0 ≤ z) (h1 : z ≤ 1048576) : ∃ k q : Nat, k ≤ N ∧ q ≤ 1048576 ∧ Value.int .i64 0 = .int .i64 (k : Int) ∧ Value.int .i64 z = .int .i64 (q : Int) :=
  ⟨0, z.toNat, Nat.zero_le _, by omega, rfl, by rw [Int.toNat_of_nonneg h0]⟩

set_option maxHeartbeats 8000000 in
set_option maxRecDepth 100000 in
theorem zz_any (u v x : U) (ex : Int) (s p : ByteArray) (w : World) (h1 : u.At w) (h2 : v.At w) (h3 : x.At w) :
    Calls Try.prog 12 #[u.val, v.val, x.val, .int .u32 ex, .string s, .string p] w fun e w' => Zz u v x e ∧ Below w.heap.size w w' := by
  have B3 := hid (W3.below u v x w)
  have BX := hid (W3.boxes u v x w)
  have A1 := hid (h1.kept B3.out)
  have A2 := hid (h2.kept B3.out)
  have A3 := hid (h3.kept B3.out)
  clear h1 h2 h3
  unfold U.val
  go_enter Try.func12, Try.ntmps12
  go_wp2
  all_goals first | (go_ret; exact ⟨Or.inl rfl, B3.out⟩) | skip
  have e : W3 u v x w = ((w.alloc (u.obj 33)).alloc (v.obj 33)).alloc (x.obj 33) := rfl
  unfold U.obj at e
  rw [← e]
  clear e
  generalize W3 u v x w = W at *
  obtain ⟨_, c0, c1, c2, c3, c4, c5, c6, c7⟩ := BX.out.b1
  obtain ⟨_, d0, d1, d2, d3, d4, d5, d6, d7⟩ := BX.out.b2
  obtain ⟨_, e0, e1, e2, e3, e4, e5, e6, e7⟩ := BX.out.b3
  clear BX
  have N0 : u.n5 ≤ 1048576 := by omega
  go_loop [13, 14] (fun t i => ∃ (k q : Nat), k ≤ u.n5 ∧ q ≤ 1048576 ∧ i = .int .i64 k ∧ t = .int .i64 q) (fun _ i => u.n5 - (intOf i).toNat)
  case atStart => exact start_q (by omega) (by omega)
  case round => as_aux_lemma =>
    obtain ⟨k, q, hk, hq, rfl, rfl⟩ := hrel
    by_cases hlt : k < u.n5
    · obtain ⟨b, off, ea, hb, hc⟩ := A1.out.p5.at' (by omega)
      obtain ⟨g0, g1⟩ := PAt.pair hc hlt
      obtain ⟨y0, hy0⟩ : ∃ y, y = u.f5 (k * 2) := ⟨_, rfl⟩
      obtain ⟨y1, hy1⟩ : ∃ y, y = u.f5 (k * 2 + 1) := ⟨_, rfl⟩
      rw [← hy0] at g0
      rw [← hy1] at g1
      clear hc hy0 hy1
      go_wp2
      all_goals first | (go_ret; exact ⟨Or.inl rfl, B3.out⟩) | skip
      go_round
      case rel => exact ⟨k + 1, q + y0.size + y1.size, by omega, by omega, by go_num, by simp⟩
      case measure => simp [intOf]; omega
    go_wp2
    all_goals first | (go_ret; exact ⟨Or.inl rfl, B3.out⟩) | skip
    clear hlt
    have N1 : u.n6 ≤ 1048576 := by omega
    go_loop [13, 15] (fun t i => ∃ (k q : Nat), k ≤ u.n6 ∧ q ≤ 1048576 ∧ i = .int .i64 k ∧ t = .int .i64 q) (fun _ i => u.n6 - (intOf i).toNat)
    case atStart => exact start_q (by omega) (by omega)
    case round => as_aux_lemma =>
      obtain ⟨k, q, hk, hq, rfl, rfl⟩ := hrel
      by_cases hlt : k < u.n6
      · obtain ⟨b, off, ea, hb, hc⟩ := A1.out.p6.at' (by omega)
        obtain ⟨g0, g1⟩ := PAt.pair hc hlt
        obtain ⟨y0, hy0⟩ : ∃ y, y = u.f6 (k * 2) := ⟨_, rfl⟩
        obtain ⟨y1, hy1⟩ : ∃ y, y = u.f6 (k * 2 + 1) := ⟨_, rfl⟩
        rw [← hy0] at g0
        rw [← hy1] at g1
        clear hc hy0 hy1
        go_wp2
        all_goals first | (go_ret; exact ⟨Or.inl rfl, B3.out⟩) | skip
        go_round
        case rel => exact ⟨k + 1, q + y0.size + y1.size, by omega, by omega, by go_num, by simp⟩
        case measure => simp [intOf]; omega
      go_wp2
      all_goals first | (go_ret; exact ⟨Or.inl rfl, B3.out⟩) | skip
      clear hlt
      have N2 : v.n5 ≤ 1048576 := by omega
      go_loop [13, 16] (fun t i => ∃ (k q : Nat), k ≤ v.n5 ∧ q ≤ 1048576 ∧ i = .int .i64 k ∧ t = .int .i64 q) (fun _ i => v.n5 - (intOf i).toNat)
      case atStart => exact start_q (by omega) (by omega)
      case round => as_aux_lemma =>
        obtain ⟨k, q, hk, hq, rfl, rfl⟩ := hrel
        by_cases hlt : k < v.n5
        · obtain ⟨b, off, ea, hb, hc⟩ := A2.out.p5.at' (by omega)
          obtain ⟨g0, g1⟩ := PAt.pair hc hlt
          obtain ⟨y0, hy0⟩ : ∃ y, y = v.f5 (k * 2) := ⟨_, rfl⟩
          obtain ⟨y1, hy1⟩ : ∃ y, y = v.f5 (k * 2 + 1) := ⟨_, rfl⟩
          rw [← hy0] at g0
          rw [← hy1] at g1
          clear hc hy0 hy1
          go_wp2
          all_goals first | (go_ret; exact ⟨Or.inl rfl, B3.out⟩) | skip
          go_round
          case rel => exact ⟨k + 1, q + y0.size + y1.size, by omega, by omega, by go_num, by simp⟩
          case measure => simp [intOf]; omega
        go_wp2
        all_goals first | (go_ret; exact ⟨Or.inl rfl, B3.out⟩) | skip
        clear hlt
        have N3 : v.n6 ≤ 1048576 := by omega
        go_loop [13, 17] (fun t i => ∃ (k q : Nat), k ≤ v.n6 ∧ q ≤ 1048576 ∧ i = .int .i64 k ∧ t = .int .i64 q) (fun _ i => v.n6 - (intOf i).toNat)
        case atStart => exact start_q (by omega) (by omega)
        case round => as_aux_lemma =>
          obtain ⟨k, q, hk, hq, rfl, rfl⟩ := hrel
          by_cases hlt : k < v.n6
          · obtain ⟨b, off, ea, hb, hc⟩ := A2.out.p6.at' (by omega)
            obtain ⟨g0, g1⟩ := PAt.pair hc hlt
            obtain ⟨y0, hy0⟩ : ∃ y, y = v.f6 (k * 2) := ⟨_, rfl⟩
            obtain ⟨y1, hy1⟩ : ∃ y, y = v.f6 (k * 2 + 1) := ⟨_, rfl⟩
            rw [← hy0] at g0
            rw [← hy1] at g1
            clear hc hy0 hy1
            go_wp2
            all_goals first | (go_ret; exact ⟨Or.inl rfl, B3.out⟩) | skip
            go_round
            case rel => exact ⟨k + 1, q + y0.size + y1.size, by omega, by omega, by go_num, by simp⟩
            case measure => simp [intOf]; omega
          go_wp2
          all_goals first | (go_ret; exact ⟨Or.inl rfl, B3.out⟩) | skip
          clear hlt
          have N4 : x.n5 ≤ 1048576 := by omega
          go_loop [13, 18] (fun t i => ∃ (k q : Nat), k ≤ x.n5 ∧ q ≤ 1048576 ∧ i = .int .i64 k ∧ t = .int .i64 q) (fun _ i => x.n5 - (intOf i).toNat)
          case atStart => exact start_q (by omega) (by omega)
          case round => as_aux_lemma =>
            obtain ⟨k, q, hk, hq, rfl, rfl⟩ := hrel
            by_cases hlt : k < x.n5
            · obtain ⟨b, off, ea, hb, hc⟩ := A3.out.p5.at' (by omega)
              obtain ⟨g0, g1⟩ := PAt.pair hc hlt
              obtain ⟨y0, hy0⟩ : ∃ y, y = x.f5 (k * 2) := ⟨_, rfl⟩
              obtain ⟨y1, hy1⟩ : ∃ y, y = x.f5 (k * 2 + 1) := ⟨_, rfl⟩
              rw [← hy0] at g0
              rw [← hy1] at g1
              clear hc hy0 hy1
              go_wp2
              all_goals first | (go_ret; exact ⟨Or.inl rfl, B3.out⟩) | skip
              go_round
              case rel => exact ⟨k + 1, q + y0.size + y1.size, by omega, by omega, by go_num, by simp⟩
              case measure => simp [intOf]; omega
            go_wp2
            all_goals first | (go_ret; exact ⟨Or.inl rfl, B3.out⟩) | skip
            clear hlt
            have N5 : x.n6 ≤ 1048576 := by omega
            go_loop [13, 19] (fun t i => ∃ (k q : Nat), k ≤ x.n6 ∧ q ≤ 1048576 ∧ i = .int .i64 k ∧ t = .int .i64 q) (fun _ i => x.n6 - (intOf i).toNat)
            case atStart => exact start_q (by omega) (by omega)
            case round => as_aux_lemma =>
              obtain ⟨k, q, hk, hq, rfl, rfl⟩ := hrel
              by_cases hlt : k < x.n6
              · obtain ⟨b, off, ea, hb, hc⟩ := A3.out.p6.at' (by omega)
                obtain ⟨g0, g1⟩ := PAt.pair hc hlt
                obtain ⟨y0, hy0⟩ : ∃ y, y = x.f6 (k * 2) := ⟨_, rfl⟩
                obtain ⟨y1, hy1⟩ : ∃ y, y = x.f6 (k * 2 + 1) := ⟨_, rfl⟩
                rw [← hy0] at g0
                rw [← hy1] at g1
                clear hc hy0 hy1
                go_wp2
                all_goals first | (go_ret; exact ⟨Or.inl rfl, B3.out⟩) | skip
                go_round
                case rel => exact ⟨k + 1, q + y0.size + y1.size, by omega, by omega, by go_num, by simp⟩
                case measure => simp [intOf]; omega
              go_wp2
              all_goals first | (go_ret; exact ⟨Or.inl rfl, B3.out⟩) | skip
              clear hlt
              go_ret
              exact ⟨Or.inr ⟨rfl, ⟨N0, N1⟩, ⟨N2, N3⟩, ⟨N4, N5⟩⟩, B3.out⟩
end Go.Proofs.Qxb6612909a
