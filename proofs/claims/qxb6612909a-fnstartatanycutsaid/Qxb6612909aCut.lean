/- FnStartAtAnyCut (3): the walk. -/
import Derived.Test.Qxb6612909aWriter
namespace Go.Proofs.Qxb6612909a
open Go.RowKit
set_option linter.unusedVariables false

def SomeBool (e : Ending) : Prop := ∃ r : Bool, e = .returned (.bool r)

set_option maxHeartbeats 1000000 in
set_option maxRecDepth 100000 in
theorem zz5 (a : Option Addr) (l c : Nat) (z : Int) (s t : ByteArray) (w : World) :
    Calls Try.prog 5 #[.slice a l c, .int .i64 z, .string s, .string t] w fun e w' => SomeBool e ∧ w = w' := by
  by_cases h1 : (1048576 : Int) < l
  · go_enter Try.func5, Try.ntmps5
    go_wp2
    go_ret
    exact ⟨⟨_, rfl⟩, rfl⟩
  by_cases h2 : (1048576 : Int) < s.size
  · go_enter Try.func5, Try.ntmps5
    go_wp2
    go_ret
    exact ⟨⟨_, rfl⟩, rfl⟩
  by_cases h3 : (1048576 : Int) < (l : Int) + s.size
  · go_enter Try.func5, Try.ntmps5
    go_wp2
    go_ret
    exact ⟨⟨_, rfl⟩, rfl⟩
  by_cases h4 : (1048576 : Int) < t.size
  · go_enter Try.func5, Try.ntmps5
    go_wp2
    go_ret
    exact ⟨⟨_, rfl⟩, rfl⟩
  by_cases h5 : (1048576 : Int) < (l : Int) + s.size + t.size
  · go_enter Try.func5, Try.ntmps5
    go_wp2
    go_ret
    exact ⟨⟨_, rfl⟩, rfl⟩
  · go_enter Try.func5, Try.ntmps5
    go_wp2
    go_ret
    exact ⟨⟨_, rfl⟩, rfl⟩

theorem wrap_add (x : Int) (m n : Nat) : wrap64 (wrap64 (wrap64 (x + 1) + m) + n) = wrap64 (wrap64 (x + 1) + ((m + n : Nat) : Int)) := by
  simp only [wrap64]
  omega

/-- A slice of bytes, nil or in a block below B, reads l. -/
structure BytesIn (B : Nat) (w : World) (a : Option Addr) (len cap : Nat) (l : List UInt8) : Prop where
  len_eq : l.length = len
  nil : a = none → len = 0 ∧ cap = 0
  at' : 0 < len → ∃ b off, a = some ⟨b, off, none⟩ ∧ b < B ∧ ∀ j u, (Lib.byteCells l)[j]? = some u → w.cell? ⟨b, off + j, none⟩ = some u

theorem BytesIn.kept {B B' : Nat} {w w' : World} {a : Option Addr} {len cap : Nat} {l : List UInt8} (h : BytesIn B w a len cap l) (hb : Below B' w w') (hB : B ≤ B') : BytesIn B w' a len cap l := by
  refine ⟨h.len_eq, h.nil, fun h0 => ?_⟩
  obtain ⟨b, off, e, hlt, hc⟩ := h.at' h0
  exact ⟨b, off, e, hlt, fun j u hu => (hb.cell (p := ⟨b, off + j, none⟩) (Nat.lt_of_lt_of_le hlt hB)).trans (hc j u hu)⟩

theorem BytesIn.now {B : Nat} {w : World} {a : Option Addr} {len cap : Nat} {l : List UInt8} (h : BytesIn B w a len cap l) (hB : B ≤ w.heap.size) : BytesAt w a len cap l := by
  refine ⟨h.len_eq, h.nil, fun h0 => ?_⟩
  obtain ⟨b, off, e, hlt, hc⟩ := h.at' h0
  exact ⟨b, off, e, Nat.lt_of_lt_of_le hlt hB, hc⟩

theorem in_of_own {w : World} {base n : Nat} {v : Value} {l : List UInt8} (h : w.ownsRow base 5 1 v n (Lib.byteCells l)) : ∃ a cap, v = .slice a n cap ∧ BytesIn w.heap.size w a n cap l := by
  obtain ⟨a, cap, e, hb⟩ := bytes_of_own h
  exact ⟨a, cap, e, hb.len_eq, hb.nil, hb.at'⟩

theorem below_of_grown {w w' : World} {B g : Nat} (h : w.grownBy w' (some g)) (hB : B ≤ w.heap.size) (hg : B ≤ g) : Below B w w' :=
  (Below.refl _ _).grown h hB (fun k hk => by simp at hk; omega)

theorem append_data (s t : ByteArray) : (s ++ t).data.toList = s.data.toList ++ t.data.toList := by
  rw [ByteArray.data_append, Array.toList_append]

/-- 'append(buf, s...)' under a guard that says yes. -/
theorem wpList_append_string_want {P : Program} (w : World) {ops : Array Oper} {rest : List Oper} {o : Oper} {a : Act} {Q : Exit → Act → World → Prop} (hgd : Region.wanted o (yielded ops a.tmps) = true) (sl x : Operand) (t u : TypeId)
    (ho : o.op = .call { callee := .builtin .append, args := #[sl, x], argTypes := #[t, u] })
    (base : Nat) (e : TypeId) (i : TypeInfo) (ht : P.underlying t = some (.slice e)) (hu : P.underlying u = some .string) (hi : P.info? e = some i) (hz : i.zero = some (.int .u8 0))
    (hsize : i.size = 1) (hby : i.bytes = 1)
    (v : Value) (n : Nat) (xs : List Value) (hs : a.eval sl = v) (hown : w.ownsRow base e 1 v n xs) (s : ByteArray) (hx : a.eval x = .string s)
    (h63 : n + s.size ≤ maxLen) (hbytes : n + s.size ≤ 140737488355328) (hbase : base ≤ w.heap.size)
    (h : ∀ v' w', w'.ownsRow base e 1 v' (n + s.size) (xs ++ Lib.strCells s) → w.grownBy w' v.ownBlock → wpList P ops Q rest (a.put o.dst v') w') : wpList P ops Q (o :: rest) a w := by
  refine BigFrame.wpList_want hgd fun K hK => ?_
  obtain ⟨v', w', hr, h2, h3, h4⟩ := Lib.run_append_own_string (P := P) w base t u o.type e i ht hu hi hz hsize hby v n xs hown s h63 hbytes hbase
  unfold Oper.wp execOp
  simp only [ho, resolve, invoke, builtin, Sem.run_bind, Sem.run_pure, Result.andThen_ok, List.map_toArray, List.map_cons, List.map_nil, hs, hx, hr]
  exact hK _ _ (h v' w' h2 h3)

set_option maxHeartbeats 4000000 in
set_option maxRecDepth 100000 in
theorem cut_walk (a : Option Addr) (N cap : Nat) (z : Int) (s t : ByteArray) (l : List UInt8) (w : World) (hb : BytesAt w a N cap l) (h1 : N ≤ 1048576) (h2 : s.size ≤ 1048576) (h3 : t.size ≤ 1048576) (h4 : N + s.size + t.size ≤ 1048576) :
    Calls Try.prog 3 #[.slice a N cap, .int .i64 z, .string s, .string t] w fun e w' => e = .returned (.bool true) ∧ Below w.heap.size w w' := by
  obtain ⟨i5, hi5, hz50, hz51, hz52⟩ := info_parts info5
  have KZ := hid (zz5 a N cap z s t w)
  have K1 := hid (clone_any a N cap l w hb (by omega))
  have HB := hid hb
  clear hb
  have hst : (s ++ t).size = s.size + t.size := by simp
  have HST := hid hst
  clear hst
  go_enter Try.func3, Try.ntmps3
  go_wp2_with (go_at_call 5; refine KZ.out.mono ?_; rintro e w' ⟨⟨r, rfl⟩, rfl⟩; cases r)
  · go_ret
    exact ⟨rfl, Below.refl _ _⟩
  clear KZ
  -- orig
  refine K1.out.mono ?_
  rintro e w1 ⟨v0, rfl, own0, B1⟩
  have K2 := hid (clone_any a N cap l w1 (HB.out.kept B1) (by omega))
  clear K1 HB
  obtain ⟨a0, c0, hv0, r0⟩ := in_of_own own0
  rw [hv0]
  clear hv0 own0
  -- buf
  go_wp2_with fail
  refine K2.out.mono ?_
  rintro e w2 ⟨vb, rfl, ownb, B2⟩
  replace r0 := r0.kept B2 (Nat.le_refl _)
  have q12 : w1.heap.size ≤ w2.heap.size := B2.size
  replace B2 := B1.trans (B2.mono B1.size)
  have q01 : w.heap.size ≤ w1.heap.size := B1.size
  obtain ⟨ab, cb, hvb, rb⟩ := in_of_own ownb
  rw [hvb]
  have K3 := hid (clone_any ab N cb l w2 (rb.now (Nat.le_refl _)) (by omega))
  clear hvb K2 B1 ownb
  -- the first writer
  go_wp2_with fail
  refine K3.out.mono ?_
  rintro e w3 ⟨x1, rfl, own1, B3⟩
  replace r0 := r0.kept B3 q12
  replace rb := rb.kept B3 (Nat.le_refl _)
  have q23 : w2.heap.size ≤ w3.heap.size := B3.size
  replace B3 := B2.trans (B3.mono B2.size)
  obtain ⟨ac1, cc1, hx1, _⟩ := in_of_own own1
  rw [hx1] at own1 ⊢
  clear hx1 K3 B2
  go_wp2_with fail
  refine (new_any _ _ _ _ _ _).mono ?_
  rintro e w4 ⟨rfl, wr1, B4⟩
  replace r0 := r0.kept B4 (by omega)
  replace rb := rb.kept B4 (by omega)
  replace own1 := own_below own1 B4 (fun k hk => (own1.lt k hk).2)
  have q34 : w3.heap.size ≤ w4.heap.size := B4.size
  replace B4 := B3.trans (B4.mono B3.size)
  have K5 := hid (start_yes w2.heap.size w3.heap.size N _ z (s ++ t) l w4 wr1 own1 (by omega) q23 (by rw [HST.out]; omega))
  clear wr1 own1 B3
  go_wp2_with fail
  refine K5.out.mono ?_
  rintro e w5 ⟨rfl, v1, wr1, own1, B5⟩
  replace r0 := r0.kept B5 q12
  replace rb := rb.kept B5 (Nat.le_refl _)
  have q45 : w4.heap.size ≤ w5.heap.size := B5.size
  replace B5 := B4.trans (B5.mono (by omega))
  obtain ⟨a1, c1, hv1, r1⟩ := in_of_own own1
  rw [hv1] at wr1
  have g1 : w3.heap.size < w5.heap.size := wr1.lt
  clear hv1 own1 K5 B4
  -- the second writer
  have K6 := hid (clone_any ab N cb l w5 (rb.now (by omega)) (by omega))
  go_wp2_with fail
  refine K6.out.mono ?_
  rintro e w6 ⟨x2, rfl, own2, B6⟩
  replace r0 := r0.kept B6 (by omega)
  replace rb := rb.kept B6 (by omega)
  replace r1 := r1.kept B6 (Nat.le_refl _)
  replace wr1 := wr1.kept B6 g1
  have q56 : w5.heap.size ≤ w6.heap.size := B6.size
  replace B6 := B5.trans (B6.mono B5.size)
  obtain ⟨ac2, cc2, hx2, _⟩ := in_of_own own2
  rw [hx2] at own2 ⊢
  clear hx2 K6 B5
  go_wp2_with fail
  refine (new_any _ _ _ _ _ _).mono ?_
  rintro e w7 ⟨rfl, wr2, B7⟩
  replace r0 := r0.kept B7 (by omega)
  replace rb := rb.kept B7 (by omega)
  replace r1 := r1.kept B7 (by omega)
  replace wr1 := wr1.kept B7 (by omega)
  replace own2 := own_below own2 B7 (fun k hk => (own2.lt k hk).2)
  have q67 : w6.heap.size ≤ w7.heap.size := B7.size
  replace B7 := B6.trans (B7.mono B6.size)
  have K8 := hid (start_yes w5.heap.size w6.heap.size N _ z s l w7 wr2 own2 (by omega) q56 (by omega))
  clear wr2 own2 B6
  go_wp2_with fail
  refine K8.out.mono ?_
  rintro e w8 ⟨rfl, v2, wr2, own2, B8⟩
  replace r0 := r0.kept B8 (by omega)
  replace rb := rb.kept B8 (by omega)
  replace r1 := r1.kept B8 (Nat.le_refl _)
  replace wr1 := wr1.kept B8 g1
  have q78 : w7.heap.size ≤ w8.heap.size := B8.size
  replace B8 := B7.trans (B8.mono (by omega))
  obtain ⟨a2, c2, hv2, r2⟩ := in_of_own own2
  rw [hv2] at wr2
  have g2 : w6.heap.size < w8.heap.size := wr2.lt
  clear hv2 own2 K8 B7
  -- the third writer
  have K9 := hid (clone_any ab N cb l w8 (rb.now (by omega)) (by omega))
  go_wp2_with fail
  refine K9.out.mono ?_
  rintro e w9 ⟨x3, rfl, own3, B9⟩
  replace r0 := r0.kept B9 (by omega)
  replace r1 := r1.kept B9 (by omega)
  replace r2 := r2.kept B9 (Nat.le_refl _)
  replace wr1 := wr1.kept B9 (by omega)
  replace wr2 := wr2.kept B9 g2
  have q89 : w8.heap.size ≤ w9.heap.size := B9.size
  replace B9 := B8.trans (B9.mono B8.size)
  obtain ⟨a3, c3, hx3, r3⟩ := in_of_own own3
  rw [hx3]
  clear hx3 K9 B8 own3 rb
  go_wp2_with fail
  refine (new_any _ _ _ _ _ _).mono ?_
  rintro e wA ⟨rfl, wr3, BA⟩
  replace r0 := r0.kept BA (by omega)
  replace r1 := r1.kept BA (by omega)
  replace r2 := r2.kept BA (by omega)
  replace r3 := r3.kept BA (Nat.le_refl _)
  replace wr1 := wr1.kept BA (by omega)
  replace wr2 := wr2.kept BA (by omega)
  have q9A : w9.heap.size ≤ wA.heap.size := BA.size
  replace BA := B9.trans (BA.mono B9.size)
  have KB := hid (start_no w9.heap.size _ z (s ++ t) wA wr3)
  clear wr3 B9
  go_wp2_with fail
  refine KB.out.mono ?_
  rintro e wB ⟨rfl, wr3, gB⟩
  have BB := below_of_grown gB q9A (Nat.le_refl _)
  replace r0 := r0.kept BB (by omega)
  replace r1 := r1.kept BB (by omega)
  replace r2 := r2.kept BB (by omega)
  replace r3 := r3.kept BB (Nat.le_refl _)
  replace wr1 := wr1.kept BB (by omega)
  replace wr2 := wr2.kept BB (by omega)
  have qAB : wA.heap.size ≤ wB.heap.size := BB.size
  replace BB := BA.trans (BB.mono (by omega))
  clear KB BA gB
  -- what they hold
  have Kb1 := hid (buf_any _ _ _ _ _ _ wB wr1)
  have Kb2 := hid (buf_any _ _ _ _ _ _ wB wr2)
  have Kb3 := hid (buf_any _ _ _ _ _ _ wB wr3)
  have Kz1 := hid (size_any _ _ _ _ wB wr1)
  have Kz2 := hid (size_any _ _ _ _ wB wr2)
  have Kz3 := hid (size_any _ _ _ _ wB wr3)
  obtain ⟨Z1, hZ1⟩ : ∃ Z1, Z1 = wrap64 (wrap64 (z + 1) + (s ++ t).size) := ⟨_, rfl⟩
  obtain ⟨Z2, hZ2⟩ : ∃ Z2, Z2 = wrap64 (wrap64 (z + 1) + s.size) := ⟨_, rfl⟩
  have HZ12 : Hid (wrap64 (Z2 + t.size) = Z1) := by
    rw [hZ1, hZ2, wrap_add, HST.out]; exact rfl
  rw [← hZ1] at Kz1 Kz3
  rw [← hZ2] at Kz2
  have HZ2 := hid hZ2
  clear hZ1 hZ2 wr1 wr2 wr3
  go_wp2_with fail
  refine Kb1.out.mono ?_
  rintro e wx ⟨rfl, rfl⟩
  go_wp2_with fail
  refine Kb2.out.mono ?_
  rintro e wx ⟨rfl, rfl⟩
  go_wp2_with fail
  refine Kb3.out.mono ?_
  rintro e wx ⟨rfl, rfl⟩
  go_wp2_with fail
  refine Kz1.out.mono ?_
  rintro e wx ⟨rfl, rfl⟩
  go_wp2_with fail
  refine Kz2.out.mono ?_
  rintro e wx ⟨rfl, rfl⟩
  go_wp2_with fail
  refine Kz3.out.mono ?_
  rintro e wx ⟨rfl, rfl⟩
  clear Kb1 Kb2 Kb3 Kz1 Kz2 Kz3
  -- what is wanted
  have KC := hid (clone_any a0 N c0 l wB (r0.now (by omega)) (by omega))
  go_wp2_with fail
  refine KC.out.mono ?_
  rintro e wC ⟨x4, rfl, own4, BC⟩
  replace r0 := r0.kept BC (by omega)
  replace r1 := r1.kept BC (by omega)
  replace r2 := r2.kept BC (by omega)
  replace r3 := r3.kept BC (by omega)
  have qBC : wB.heap.size ≤ wC.heap.size := BC.size
  replace BC := BB.trans (BC.mono BB.size)
  obtain ⟨a4, c4, hx4, _⟩ := in_of_own own4
  rw [hx4] at own4 ⊢
  clear hx4 KC BB
  go_wp2_with (at_builtin; refine wpList_append_own _ rfl (.tmp 92) (.tmp 93) 22 rfl wB.heap.size 5 i5 (.int .u8 0) 1 1 Try.underlying22 hi5 hz50 hz51 hz52 rfl (by decide) _ _ _ rfl (own4.alloc _) ⟨wC.heap.size, 0, none⟩ 1 1 [.int .u8 60] rfl rfl ?c1 ?c2 ?c3 ?c4 ?c5 ?_)
  case c1 =>
    intro j u hj
    match j, hj with
    | 0, hj => simp at hj; subst hj; simp [Addr.add]
  case c2 => intro u hu; simp at hu; subst hu; rfl
  case c3 => unfold maxLen; omega
  case c4 => omega
  case c5 => simp; omega
  intro v5 wD own5 gD _
  have BD' : Below wB.heap.size wC wD := ((Below.refl _ _).alloc qBC _).grown gD (by simp; omega) (fun k hk => (own4.lt k hk).1)
  replace r0 := r0.kept BD' (by omega)
  replace r1 := r1.kept BD' (by omega)
  replace r2 := r2.kept BD' (by omega)
  replace r3 := r3.kept BD' (by omega)
  have qCD : wC.heap.size ≤ wD.heap.size := BD'.size
  have BD := BC.trans (BD'.mono (by omega))
  have e60 : Lib.byteCells l ++ [.int .u8 60] = Lib.byteCells (l ++ [60]) := by rw [Lib.byteCells_append]; rfl
  rw [e60] at own5
  obtain ⟨a5, c5, hv5, _⟩ := in_of_own own5
  rw [hv5] at own5 ⊢
  clear hv5 e60 own4 gD BC BD'
  go_wp2_with (at_builtin; refine Lib.wpList_append_own_string _ rfl (.tmp 95) (.tmp 96) 22 9 rfl wB.heap.size 5 i5 Try.underlying22 Try.underlying9 hi5 hz50 hz51 hz52 _ _ _ rfl own5 s rfl ?d1 ?d2 ?d3 ?_)
  case d1 => unfold maxLen; omega
  case d2 => omega
  case d3 => omega
  intro v6 wE own6 gE _
  have BE' : Below wB.heap.size wD wE := (Below.refl _ _).grown gE (by omega) (fun k hk => (own5.lt k hk).1)
  replace r0 := r0.kept BE' (by omega)
  replace r1 := r1.kept BE' (by omega)
  replace r2 := r2.kept BE' (by omega)
  replace r3 := r3.kept BE' (by omega)
  have qDE : wD.heap.size ≤ wE.heap.size := BE'.size
  have BE := BD.trans (BE'.mono (by omega))
  rw [lt_own] at own6
  obtain ⟨a6, c6, hv6, r6⟩ := in_of_own own6
  rw [hv6]
  clear hv6 own5 own6 gE BD BE'
  have KF := hid (same_any a2 a6 (N + 1 + s.size) c2 c6 _ wE (r2.now (by omega)) (r6.now (Nat.le_refl _)) (by omega))
  have hz2 := HZ2.out.symm
  go_wp2_with fail
  refine KF.out.mono ?_
  rintro e wF ⟨rfl, mF, rfl⟩
  clear KF r6
  have dF : Below wE.heap.size wE (wE.drewN mF) := below_drewN (Below.refl _ _) mF
  replace r0 := r0.kept dF (by omega)
  replace r1 := r1.kept dF (by omega)
  replace r2 := r2.kept dF (by omega)
  replace r3 := r3.kept dF (by omega)
  have BF := below_drewN BE mF
  obtain ⟨wF, hwF⟩ : ∃ wF, wF = wE.drewN mF := ⟨_, rfl⟩
  have qEF : wE.heap.size ≤ wF.heap.size := by rw [hwF]; exact Nat.le_refl _
  rw [← hwF] at r0 r1 r2 r3 BF ⊢
  clear hwF dF BE
  have KG := hid (clone_any a2 (N + 1 + s.size) c2 _ wF (r2.now (by omega)) (by omega))
  go_wp2_with fail
  refine KG.out.mono ?_
  rintro e wG ⟨x7, rfl, own7, BG⟩
  replace r0 := r0.kept BG (by omega)
  replace r1 := r1.kept BG (by omega)
  replace r3 := r3.kept BG (by omega)
  have qFG : wF.heap.size ≤ wG.heap.size := BG.size
  replace BG := BF.trans (BG.mono BF.size)
  obtain ⟨a7, c7, hx7, _⟩ := in_of_own own7
  rw [hx7] at own7 ⊢
  clear hx7 KG BF
  go_wp2_with (at_builtin; refine wpList_append_string_want _ (by rfl) (.tmp 113) (.tmp 114) 22 9 rfl wF.heap.size 5 i5 Try.underlying22 Try.underlying9 hi5 hz50 hz51 hz52 _ _ _ rfl own7 t rfl ?e1 ?e2 ?e3 ?_)
  case e1 => unfold maxLen; omega
  case e2 => omega
  case e3 => exact qFG
  intro v8 wH own8 gH
  have BH' : Below wF.heap.size wG wH := (Below.refl _ _).grown gH qFG (fun k hk => (own7.lt k hk).1)
  replace r0 := r0.kept BH' (by omega)
  replace r1 := r1.kept BH' (by omega)
  replace r3 := r3.kept BH' (by omega)
  have qGH : wG.heap.size ≤ wH.heap.size := BH'.size
  have BH := BG.trans (BH'.mono (by omega))
  rw [lt_own] at own8
  obtain ⟨a8, c8, hv8, r8⟩ := in_of_own own8
  rw [hv8]
  have el : l ++ [60] ++ (s ++ t).data.toList = l ++ [60] ++ s.data.toList ++ t.data.toList := by rw [append_data, ← List.append_assoc]
  rw [el, HST.out, ← Nat.add_assoc] at r1
  have r8' : BytesIn wH.heap.size wH a8 (N + 1 + s.size + t.size) c8 (l ++ [60] ++ s.data.toList ++ t.data.toList) := by
    have h := r8
    simp only [List.append_assoc, List.cons_append, List.nil_append] at h ⊢
    exact h
  clear hv8 own7 own8 gH BG BH' el r8
  have KI := hid (same_any a1 a8 (N + 1 + s.size + t.size) c1 c8 _ wH (r1.now (by omega)) (r8'.now (Nat.le_refl _)) (by omega))
  have hz12 := HZ12.out
  go_wp2_with fail
  rw [show N + 1 + (s.size + t.size) = N + 1 + s.size + t.size from by omega]
  refine KI.out.mono ?_
  rintro e wI ⟨rfl, mI, rfl⟩
  clear KI r8' r1
  have dI : Below wH.heap.size wH (wH.drewN mI) := below_drewN (Below.refl _ _) mI
  replace r0 := r0.kept dI (by omega)
  replace r3 := r3.kept dI (by omega)
  have BI := below_drewN BH mI
  have KJ := hid (same_any a3 a0 N c3 c0 l (wH.drewN mI) (r3.now (by show _ ≤ wH.heap.size; omega)) (r0.now (by show _ ≤ wH.heap.size; omega)) (by omega))
  clear dI BH r0 r3
  go_wp2_with fail
  refine KJ.out.mono ?_
  rintro e wJ ⟨rfl, mJ, rfl⟩
  clear KJ
  go_wp2_with fail
  go_ret
  exact ⟨rfl, ⟨BI.os, BI.tape, BI.output, BI.size, BI.block⟩⟩
end Go.Proofs.Qxb6612909a
