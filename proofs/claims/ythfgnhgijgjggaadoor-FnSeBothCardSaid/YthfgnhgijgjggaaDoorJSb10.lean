/- Contracts, joined (SeM SeN SeO SeP SeQ). -/
import Derived.Test.YthfgnhgijgjggaaDoorJSb4
import Derived.Test.YthfgnhgijgjggaaDoorJSb5
import Derived.Test.YthfgnhgijgjggaaDoorJSb8
import Derived.Test.YthfgnhgijgjggaaDoorJSb9
import Derived.Lib.AppendZerosOnto
import Derived.Stop.Asserts
/- Contract: cid.CidFromReader over a limited reader: version 1: a digest that needs a larger row. -/
namespace Go.Proofs.YthfgnhgijgjggaaDoor
open Go.RowKit

/-- An append whose run is known, as a step of a region. -/
theorem step_append_run {P : Program} {ops : Array Oper} {o : Oper} {a : Act} {w : World} {K : Act → World → Prop} {Q : Exit → Act → World → Prop} {E : Prop} (hg : o.guard = none) (s x : Operand) (t tn : TypeId)
    (hop : o.op = Op.call { callee := Callee.builtin Builtin.append, args := #[s, x], argTypes := #[t, tn] }) (vs vx : Value) (hs : a.eval s = vs) (hx : a.eval x = vx) (v' : Value) (w' : World)
    (hrun : (Builtin.append_ #[t, tn] o.type #[vs, vx]).run P w = .ok v' w') (hK : K (a.put o.dst v') w') :
    if Region.wanted o (yielded ops a.tmps) = true then Oper.wp P o a w K Q else E := by
  have hw : Region.wanted o (yielded ops a.tmps) = true := by simp [Region.wanted, hg]
  rw [if_pos hw]
  subst hs hx
  unfold Oper.wp
  simp [execOp, hop, resolve, invoke, builtin, hrun, Result.andThen]
  exact hK

section
variable {w W : World} {q p : Nat} {v : Value} {l : List UInt8} {e0 e1 e2 e3 : Addr} {j M n : Nat} {ds : List UInt8}
/-- The append: a new row. -/
theorem FrB.append (hf : FrB w W q p v l e0 e1 e2 e3 j M (w.heap.size + 1) 64 n ds) (hn : ds.length = n) (x : Nat) (hx : 64 < n + x) (hx2 : x ≤ 33554432) (ty : TypeId) :
    ∃ (C : Nat) (W2 : World), n + x ≤ C ∧ C ≤ 9223372036854775807 ∧ (Builtin.append_ #[43, 3] ty #[.slice (some ⟨w.heap.size + 1, 0, none⟩) n 64, .int .i64 x]).run Tryd.prog W = .ok (.slice (some ⟨W.heap.size, 0, none⟩) (n + x) C) W2 ∧
      (W2.cell? ⟨w.heap.size + 2, 2, none⟩ = some (.slice (some ⟨w.heap.size + 1, 0, none⟩) n 64)) ∧ (W2.frozen? ⟨w.heap.size + 2, 2, none⟩ = false) ∧ (w.heap.size + 2 < W2.heap.size) ∧
      FrB w (W2.setCell ⟨w.heap.size + 2, 2, none⟩ (.slice (some ⟨W.heap.size, 0, none⟩) (n + x) C)) q p v l e0 e1 e2 e3 j M W.heap.size C (n + x) ds := by
  obtain ⟨i, hi, h2⟩ := Option.map_eq_some_iff.1 info_u8
  simp only [Prod.mk.injEq] at h2
  obtain ⟨hz, hsz, hby⟩ := h2
  have hbs := hf.bs
  have hn64 : n ≤ 64 := by
    obtain ⟨cur, _, h3, h4⟩ := hf.row
    have := congrArg List.length h4
    rw [List.length_take, Lib.byteCells_length] at this
    omega
  have hc : ∀ k u, (Lib.byteCells ds)[k]? = some u → W.drew.cell? ((⟨w.heap.size + 1, 0, none⟩ : Addr).add k) = some u := by
    intro k u hk
    obtain ⟨cur, h1, h3, h4⟩ := hf.row
    rw [← h4, List.getElem?_take] at hk
    by_cases hkd : k < ds.length
    · rw [if_pos hkd] at hk
      have := cell_of_row' h1 k
      rw [hk] at this
      rw [Addr.add_lit, Nat.zero_add]
      exact this
    · rw [if_neg hkd] at hk; cases hk
  have hold := run_firstCells_some (P := Tryd.prog) W.drew i.size n ⟨w.heap.size + 1, 0, none⟩ n 64 (Lib.byteCells ds) (by rw [Lib.byteCells_length, hsz, hn, Nat.mul_one]) hc
  have hge := grownCap_ge W (n + x) 64 5
  have hle := grownCap_le_maxLen W (n + x) 64 5 (by unfold maxLen; omega)
  have happ := Lib.run_append_grow_zeros (P := Tryd.prog) W 43 3 ty 5 i (.int .u8 0) .i64 .i64 Tryd.underlying43 Tryd.underlying3 hi hz (some ⟨w.heap.size + 1, 0, none⟩) n 64 (Lib.byteCells ds) hold x (by omega) (by omega) (by omega) (by omega) (by rw [hby]; omega) (growslice_fits hx (by rw [hby]; omega))
  generalize grownCap W (n + x) 64 5 = C at happ hge hle
  have hC : C ≤ 9223372036854775807 := by unfold maxLen at hle; omega
  obtain ⟨cur, hcur⟩ : ∃ cur : List Value, cur = Lib.byteCells ds ++ (Builtin.zeroCells (Value.int .u8 0).cells x).toList ++ (Builtin.zeroCells (Value.int .u8 0).cells (C - (n + x))).toList := ⟨_, rfl⟩
  have he : (Lib.byteCells ds).toArray ++ Builtin.zeroCells (Value.int .u8 0).cells x ++ Builtin.zeroCells (Value.int .u8 0).cells (C - (n + x)) = cur.toArray := by
    rw [hcur]; apply Array.ext'; simp
  rw [he] at happ
  have hb : Below W.heap.size W (W.drew.alloc (.cells cur.toArray 5)) := ((Below.refl _ W).drew).alloc (Nat.le_refl _) _
  have h6 := block_of_row hf.buf
  have hbuf := row_below hb h6 hf.buf
  refine ⟨C, _, hge, hC, happ, cell_of_row' (cur := [_, _, _]) hbuf 2, frozen_of_row' (cur := [_, _, _]) hbuf 2, block_of_row hbuf, hf.grown (n + x) C cur rfl ?_ ?_⟩
  · rw [hcur]; simp [Lib.byteCells_length, size_zeroCells, Value.cells, hn]; omega
  · rw [hcur, List.append_assoc, List.take_left' (by rw [Lib.byteCells_length])]
end

set_option maxRecDepth 100000 in
set_option maxHeartbeats 8000000 in
theorem fr_growShort (q p N : Nat) (v : Value) (l L : List UInt8) (i : Nat) (w : World) (hr : Rdr w p v l i) (hl : LimAt w q p N) (hpq : p < q) (hN2 : N ≤ 9223372036854775807) (hL : L = (l.drop i).take N)
    (e0 e1 e2 e3 : Addr) (he : SeErrs p w e0 e1 e2 e3) (hu : ∀ W, Keep (fun k => p ≤ k) w W → CdS W) (m0 x1 m1 x2 m2 x m3 : Nat) (hd0 : uvDec L = .ok 1 m0) (hd1 : uvDec (L.drop (0 + m0)) = .ok x1 m1) (hd2 : uvDec (L.drop (0 + m0 + m1)) = .ok x2 m2) (hd3 : uvDec (L.drop (0 + m0 + m1 + m2)) = .ok x m3) (hx : 64 < 0 + m0 + m1 + m2 + m3 + x) (hx2 : x ≤ 33554432) (hlt : L.length < 0 + m0 + m1 + m2 + m3 + x) :
    Calls Tryd.prog 89 #[limV q] w fun e w' => FrBad e ∧ (∃ j, Rdr w' p v l j) ∧ Keep (fun k => k = p ∨ k = q) w w' := by
  have hf0 : FrS w (frW q w) q p v l e0 e1 e2 e3 (i + 0) (N - 0) (L.take 0) := FrS.start hr hl hpq he hu
  have HT := Lib.hid (toBuf_fr q w)
  have hmk := make64
  obtain ⟨W1, hW1⟩ : ∃ W1, W1 = frW q w := ⟨_, rfl⟩
  rw [← hW1] at hf0 HT
  have HL := Lib.hid hL
  have HB0 := Lib.hid (hf0.uv_ok HL.out hN2 (by omega) hd0)
  obtain ⟨h01, h02, h03, -⟩ := uvDec_ok hd0
  obtain ⟨h11, h12, h13, -⟩ := uvDec_ok hd1
  obtain ⟨h21, h22, h23, -⟩ := uvDec_ok hd2
  obtain ⟨h31, h32, h33, -⟩ := uvDec_ok hd3
  rw [List.length_drop] at h12 h22 h32
  have HD1 := Lib.hid hd1
  have HD2 := Lib.hid hd2
  have HD3 := Lib.hid hd3
  obtain ⟨s, hs⟩ : ∃ s, s = 0 + m0 + m1 := ⟨_, rfl⟩
  obtain ⟨A, hA⟩ : ∃ A, A = 0 + m0 + m1 + m2 + m3 := ⟨_, rfl⟩
  have hA36 : A ≤ 36 := by omega
  have hAL : A ≤ L.length := by omega
  have hsA : s + 2 ≤ A := by omega
  have hs1 : s ≤ L.length := by omega
  have HSS := Lib.hid hs
  have HAS : Hid (s + m2 + m3 = A) := Lib.hid (by omega)
  have HAA := Lib.hid hA
  rw [← hA] at hx hlt
  have wr1 : IntKind.i64.wrap (x : Int) = x := IntWalk.i64_in _ (by omega)
  have wr2 : IntKind.i64.wrap ((A : Int) + x) = (A : Int) + x := IntWalk.i64_in _ (by omega)
  have wr3 : IntKind.i64.wrap ((A : Int) + x - A) = x := by rw [IntWalk.i64_in _ (by omega)]; omega
  have hns : ¬ (33554432 : Int) < x := by omega
  have hn64 : (64 : Int) < (A : Int) + x := by omega
  have HLT := Lib.hid hlt
  have HX := Lib.hid hx
  have HX2 := Lib.hid hx2
  clear he hu hL hr hl hW1 hf0 hd0 hd1 hd2 hd3 h01 h11 h21 h31 h02 h12 h22 h32 hA hs hlt hx hx2
  go_enter Tryd.func89, Tryd.ntmps89
  go_wp2_with fail
  refine HT.out.mono ?_
  rintro e w1 ⟨rfl, rfl⟩
  go_wp2_with fail
  refine HB0.out.mono ?_
  rintro e w2 ⟨rfl, hf1⟩
  have HB1 := Lib.hid (hf1.uv_ok HL.out hN2 (by omega) HD1.out)
  clear hf1 HB0
  go_wp2_with fail
  refine HB1.out.mono ?_
  rintro e w3 ⟨rfl, hf2⟩
  rw [← HSS.out] at hf2
  obtain ⟨y4, y5, y6⟩ := hf2.toB.bufc
  rw [show (L.take s).length = s by rw [List.length_take]; omega] at y5
  have HB2 := Lib.hid (hf2.uv_ok HL.out hN2 (by omega) (by rw [HSS.out]; exact HD2.out))
  clear hf2 HB1
  go_wp2_with fail
  refine HB2.out.mono ?_
  rintro e w4 ⟨rfl, hf3⟩
  have HB3 := Lib.hid (hf3.uv_ok HL.out hN2 (by omega) (by rw [HSS.out]; exact HD3.out))
  clear hf3 HB2 y4 y5 y6
  go_wp2_with fail
  refine HB3.out.mono ?_
  rintro e w5 ⟨rfl, hf4⟩
  rw [HAS.out] at hf4
  have hB := hf4.toB
  rw [show (L.take A).length = A by rw [List.length_take]; omega] at hB
  obtain ⟨q4, q5, q6⟩ := hB.bufc
  have HB5 := Lib.hid (hB.below (W2 := w5.drew) (below_drewN _ _ 1))
  clear hf4 hB HB3
  obtain ⟨C, W6, hAC, hC, happ, g4, g6, g5, hB6⟩ := HB5.out.append (by rw [List.length_take]; omega) x HX.out HX2.out 43
  have hsz5 : w5.drew.heap.size = w5.heap.size := rfl
  rw [hsz5] at happ hB6
  obtain ⟨h, hh⟩ : ∃ h, h = w5.heap.size := ⟨_, rfl⟩
  rw [← hh] at happ hB6
  have HAPP := Lib.hid happ
  have HS := Lib.hid hB6
  have hsl2 : ∀ W, (Instr.slice 43 (.slice (some ⟨h, 0, none⟩) (A + x) C) (some (.int .i64 A)) (some (.int .i64 ((A : Int) + x))) none).run Tryd.prog W = .ok (.slice (some ⟨h, A, none⟩) x (C - A)) W := fun W => by
    have := run_lh (P := Tryd.prog) Tryd.underlying43 info_u8 h (A + x) C A (A + x) (by omega) (by omega) (by have := HX.out; omega) A ((A : Int) + x) rfl (by omega) W
    rw [Nat.add_sub_cancel_left] at this
    exact this
  have HF := Lib.hid (HS.out.full_no (a := A) (x := x) HL.out hN2 hC HLT.out hAC hAL)
  clear happ hB6 hh hsz5
  go_wp2_with fail
  go_region_law (refine step_append_run rfl (.tmp 201) (.tmp 208) 43 3 rfl _ _ (by rfl) (by rfl) _ _ HAPP.out ?_)
  all_goals
    go_wp2_with fail
    refine HF.out.mono ?_
    rintro e w7 ⟨k, b, rfl, hk, hE⟩
    obtain ⟨us, p1, p2, p3, p4, p5, p6⟩ := hE.fin
    have HE := Lib.hid hE
    clear hE HF q4 q5 q6 g4 g5 g6
    go_wp2_with fail
    go_region
    all_goals
      go_wp2
      refine bodyPost_ret (results_tmp_row_tmp rfl _ _ (w.heap.size) 80 #[.string us] (0, 0) _ rfl p6.out Tryd.underlying80 rfl (by kernel_rfl)) rfl ?_
      exact ⟨⟨_, _, _, rfl⟩, HE.out.out 1 _⟩

set_option maxRecDepth 100000 in
set_option maxHeartbeats 8000000 in
theorem fr_growOk (q p N : Nat) (v : Value) (l L : List UInt8) (i : Nat) (w : World) (hr : Rdr w p v l i) (hl : LimAt w q p N) (hpq : p < q) (hN2 : N ≤ 9223372036854775807) (hL : L = (l.drop i).take N)
    (e0 e1 e2 e3 : Addr) (he : SeErrs p w e0 e1 e2 e3) (hu : ∀ W, Keep (fun k => p ≤ k) w W → CdS W) (m0 x1 m1 x2 m2 x m3 : Nat) (hd0 : uvDec L = .ok 1 m0) (hd1 : uvDec (L.drop (0 + m0)) = .ok x1 m1) (hd2 : uvDec (L.drop (0 + m0 + m1)) = .ok x2 m2) (hd3 : uvDec (L.drop (0 + m0 + m1 + m2)) = .ok x m3) (hx : 64 < 0 + m0 + m1 + m2 + m3 + x) (hx2 : x ≤ 33554432) (hle : 0 + m0 + m1 + m2 + m3 + x ≤ L.length) :
    Calls Tryd.prog 89 #[limV q] w fun e w' => e = .returned (.tuple #[.int .i64 ((0 + m0 + m1 + m2 + m3 + x : Nat) : Int), .agg #[.string ⟨(L.take (0 + m0 + m1 + m2 + m3 + x)).toArray⟩], .nilIface]) ∧ Rdr w' p v l (i + (0 + m0 + m1 + m2 + m3 + x)) ∧ Keep (fun k => k = p ∨ k = q) w w' := by
  have hf0 : FrS w (frW q w) q p v l e0 e1 e2 e3 (i + 0) (N - 0) (L.take 0) := FrS.start hr hl hpq he hu
  have HT := Lib.hid (toBuf_fr q w)
  have hmk := make64
  obtain ⟨W1, hW1⟩ : ∃ W1, W1 = frW q w := ⟨_, rfl⟩
  rw [← hW1] at hf0 HT
  have HL := Lib.hid hL
  have HB0 := Lib.hid (hf0.uv_ok HL.out hN2 (by omega) hd0)
  obtain ⟨h01, h02, h03, -⟩ := uvDec_ok hd0
  obtain ⟨h11, h12, h13, -⟩ := uvDec_ok hd1
  obtain ⟨h21, h22, h23, -⟩ := uvDec_ok hd2
  obtain ⟨h31, h32, h33, -⟩ := uvDec_ok hd3
  rw [List.length_drop] at h12 h22 h32
  have HD1 := Lib.hid hd1
  have HD2 := Lib.hid hd2
  have HD3 := Lib.hid hd3
  obtain ⟨s, hs⟩ : ∃ s, s = 0 + m0 + m1 := ⟨_, rfl⟩
  obtain ⟨A, hA⟩ : ∃ A, A = 0 + m0 + m1 + m2 + m3 := ⟨_, rfl⟩
  have hA36 : A ≤ 36 := by omega
  have hAL : A ≤ L.length := by omega
  have hsA : s + 2 ≤ A := by omega
  have hs1 : s ≤ L.length := by omega
  have HSS := Lib.hid hs
  have HAS : Hid (s + m2 + m3 = A) := Lib.hid (by omega)
  have HAA := Lib.hid hA
  rw [← hA] at hx hle ⊢
  have wr1 : IntKind.i64.wrap (x : Int) = x := IntWalk.i64_in _ (by omega)
  have wr2 : IntKind.i64.wrap ((A : Int) + x) = (A : Int) + x := IntWalk.i64_in _ (by omega)
  have wr3 : IntKind.i64.wrap ((A : Int) + x - A) = x := by rw [IntWalk.i64_in _ (by omega)]; omega
  have hns : ¬ (33554432 : Int) < x := by omega
  have hn64 : (64 : Int) < (A : Int) + x := by omega
  have HMH := Lib.hid (mh_in (s := s) (L := L) (by rw [hs]; exact hd2) (by rw [hs]; exact hd3) (by omega) (by omega))
  rw [show s + m2 + m3 + x = A + x by omega] at HMH
  have HLE := Lib.hid hle
  have HX := Lib.hid hx
  have HX2 := Lib.hid hx2
  clear he hu hL hr hl hW1 hf0 hd0 hd1 hd2 hd3 h01 h11 h21 h31 h02 h12 h22 h32 hA hs hle hx hx2
  go_enter Tryd.func89, Tryd.ntmps89
  go_wp2_with fail
  refine HT.out.mono ?_
  rintro e w1 ⟨rfl, rfl⟩
  go_wp2_with fail
  refine HB0.out.mono ?_
  rintro e w2 ⟨rfl, hf1⟩
  have HB1 := Lib.hid (hf1.uv_ok HL.out hN2 (by omega) HD1.out)
  clear hf1 HB0
  go_wp2_with fail
  refine HB1.out.mono ?_
  rintro e w3 ⟨rfl, hf2⟩
  rw [← HSS.out] at hf2
  obtain ⟨y4, y5, y6⟩ := hf2.toB.bufc
  rw [show (L.take s).length = s by rw [List.length_take]; omega] at y5
  have HB2 := Lib.hid (hf2.uv_ok HL.out hN2 (by omega) (by rw [HSS.out]; exact HD2.out))
  clear hf2 HB1
  go_wp2_with fail
  refine HB2.out.mono ?_
  rintro e w4 ⟨rfl, hf3⟩
  have HB3 := Lib.hid (hf3.uv_ok HL.out hN2 (by omega) (by rw [HSS.out]; exact HD3.out))
  clear hf3 HB2 y4 y5 y6
  go_wp2_with fail
  refine HB3.out.mono ?_
  rintro e w5 ⟨rfl, hf4⟩
  rw [HAS.out] at hf4
  have hB := hf4.toB
  rw [show (L.take A).length = A by rw [List.length_take]; omega] at hB
  obtain ⟨q4, q5, q6⟩ := hB.bufc
  have HB5 := Lib.hid (hB.below (W2 := w5.drew) (below_drewN _ _ 1))
  clear hf4 hB HB3
  obtain ⟨C, W6, hAC, hC, happ, g4, g6, g5, hB6⟩ := HB5.out.append (by rw [List.length_take]; omega) x HX.out HX2.out 43
  have hsz5 : w5.drew.heap.size = w5.heap.size := rfl
  rw [hsz5] at happ hB6
  obtain ⟨h, hh⟩ : ∃ h, h = w5.heap.size := ⟨_, rfl⟩
  rw [← hh] at happ hB6
  have HAPP := Lib.hid happ
  have HS := Lib.hid hB6
  have hsl2 : ∀ W, (Instr.slice 43 (.slice (some ⟨h, 0, none⟩) (A + x) C) (some (.int .i64 A)) (some (.int .i64 ((A : Int) + x))) none).run Tryd.prog W = .ok (.slice (some ⟨h, A, none⟩) x (C - A)) W := fun W => by
    have := run_lh (P := Tryd.prog) Tryd.underlying43 info_u8 h (A + x) C A (A + x) (by omega) (by omega) (by have := HX.out; omega) A ((A : Int) + x) rfl (by omega) W
    rw [Nat.add_sub_cancel_left] at this
    exact this
  have HF := Lib.hid (HS.out.full (a := A) (x := x) HL.out hN2 hC HLE.out hAC)
  have hsl3 : ∀ W, (Instr.slice 43 (.slice (some ⟨h, 0, none⟩) (A + x) C) (some (.int .i64 s)) none none).run Tryd.prog W = .ok (.slice (some ⟨h, s, none⟩) (A + x - s) (C - s)) W := fun W => by
    have := run_from (P := Tryd.prog) Tryd.underlying43 info_u8 (some ⟨h, 0, none⟩) (A + x) C s (by omega) W
    rw [cutA_own _ _ _ _ (by omega), Nat.zero_add] at this
    exact this
  clear happ hB6 hh hsz5
  go_wp2_with fail
  go_region_law (refine step_append_run rfl (.tmp 201) (.tmp 208) 43 3 rfl _ _ (by rfl) (by rfl) _ _ HAPP.out ?_)
  all_goals
    go_wp2_with fail
    refine HF.out.mono ?_
    rintro e w6 ⟨rfl, hB6⟩
    obtain ⟨r4, r5, r6⟩ := hB6.bufc
    have hlen : (L.take (A + x)).length = A + x := by rw [List.length_take]; have := HLE.out; omega
    have hbs := hB6.bs
    rw [hlen] at hbs
    have hbs2 := (hbs.from_ (P := Tryd.prog) Tryd.underlying43 info_u8 s (by omega)).2
    rw [cutA_own _ _ _ _ (by omega), Nat.zero_add] at hbs2
    have HC := Lib.hid (MHFrom_ok _ (A + x - s) (C - s) _ w6 hbs2 (by rw [List.length_drop, hlen]; have := HX2.out; omega) hB6.cds.toUvS _ _ _ HMH.out (by have := HAS.out; omega)).2
    have HB6 := Lib.hid hB6
    have HBS := Lib.hid hbs
    clear hbs hbs2 hB6 HF q4 q5 q6 hlen g4 g5 g6
    go_wp2_with fail
    refine HC.out.mono ?_
    rintro e w7 ⟨rfl, hb7⟩
    have hF := HB6.out.below hb7
    obtain ⟨us, p1, p2, p3, p4, p5, _⟩ := hF.fin
    have p6 := Lib.hid (Lib.heap_setCell_same (i := 0) hF.crow (.string ⟨(L.take (A + x)).toArray⟩))
    have hcv : (convert 43 9 (.slice (some ⟨h, 0, none⟩) (A + x) C)).run Tryd.prog w7.drew = .ok (.string ⟨(L.take (A + x)).toArray⟩) w7.drew := (((HBS.out.below hb7).drewN 1).str (dst := 9) Tryd.underlying43 Tryd.underlying5 Tryd.underlying9)
    have HFF := Lib.hid hF
    clear hF hb7 r4 r5 r6 HC
    go_wp2_with fail
    go_region
    all_goals
      go_wp2
      refine bodyPost_ret (results_tmp_row_tmp rfl _ _ (w.heap.size) 80 #[.string ⟨(L.take (A + x)).toArray⟩] (0, 0) _ rfl p6.out Tryd.underlying80 rfl (by kernel_rfl)) rfl ?_
      exact ⟨rfl, HFF.out.outAt 1 _⟩
end Go.Proofs.YthfgnhgijgjggaaDoor
/- Contract: cid.CidFromReader over a limited reader: all cases. -/
namespace Go.Proofs.YthfgnhgijgjggaaDoor
open Go.RowKit

theorem zero_ver {L : List UInt8} (hz : cidZero L) : uvDec L = .ok 18 1 := by
  obtain ⟨_, h0, _⟩ := hz
  cases L with
  | nil => simp at h0
  | cons b r =>
    simp only [List.getElem?_cons_zero, Option.some.injEq] at h0
    subst h0
    have := uvDec_back 18 (by omega) r
    rw [uvarint18] at this
    exact this
theorem mhRd_ok {l : List UInt8} {x2 m2 x m3 : Nat} (hd2 : uvDec l = .ok x2 m2) (hd3 : uvDec (l.drop m2) = .ok x m3) :
    mhRd l = if 2147483647 < x ∨ ((l.drop m2).drop m3).length < x then none else some (m2 + m3 + x, x2, ((l.drop m2).drop m3).take x) := by
  obtain ⟨h1, h2, _⟩ := uvDec_ok hd2
  obtain ⟨h3, h4, _⟩ := uvDec_ok hd3
  rw [List.length_drop] at h4
  unfold mhRd
  rw [if_neg (by omega), hd2]
  dsimp only
  rw [hd3]
theorem mhRd_no1 {l : List UInt8} (h : (uvDec l).no) : mhRd l = none := by
  unfold mhRd
  by_cases h2 : l.length < 2
  · rw [if_pos h2]
  · rw [if_neg h2]
    cases hh : uvDec l with
    | ok => rw [hh] at h; exact h.elim
    | _ => rfl
theorem mhRd_no2 {l : List UInt8} {x2 m2 : Nat} (hd2 : uvDec l = .ok x2 m2) (h : (uvDec (l.drop m2)).no) : mhRd l = none := by
  unfold mhRd
  by_cases h2 : l.length < 2
  · rw [if_pos h2]
  · rw [if_neg h2, hd2]
    dsimp only
    cases hh : uvDec (l.drop m2) with
    | ok => rw [hh] at h; exact h.elim
    | _ => rfl
theorem cid_notZero {L : List UInt8} (hz : ¬ cidZero L) (h : (uvDec L).no ∨ ∃ x m, uvDec L = .ok x m ∧ x ≠ 1) : cidRd L = none := by
  unfold cidRd
  rw [if_neg hz]
  rcases h with h | ⟨x, m, h, hx⟩
  · cases hh : uvDec L with
    | ok => rw [hh] at h; exact h.elim
    | _ => rfl
  · rw [h]
    dsimp only
    rw [if_neg hx]
theorem cid_one_no {L : List UInt8} {m0 : Nat} (hd0 : uvDec L = .ok 1 m0) (h : (uvDec (L.drop m0)).no) : cidRd L = none := by
  have hz : ¬ cidZero L := fun hz => by have := zero_ver hz; rw [hd0] at this; injection this with h1; omega
  unfold cidRd
  rw [if_neg hz, hd0]
  dsimp only
  rw [if_pos rfl]
  cases hh : uvDec (L.drop m0) with
  | ok => rw [hh] at h; exact h.elim
  | _ => rfl
theorem cid_one_mh {L : List UInt8} {m0 x1 m1 : Nat} (hd0 : uvDec L = .ok 1 m0) (hd1 : uvDec (L.drop m0) = .ok x1 m1) :
    cidRd L = match mhRd (L.drop (m0 + m1)) with
      | some (r, code, d) => some (⟨1, x1, code, d⟩, m0 + m1 + r)
      | none => none := by
  have hz : ¬ cidZero L := fun hz => by have := zero_ver hz; rw [hd0] at this; injection this with h1; omega
  unfold cidRd
  rw [if_neg hz, hd0]
  dsimp only
  rw [if_pos rfl, hd1]
  dsimp only
  rw [List.drop_drop]
  rfl

/-- What is answered. -/
def FrSays (L : List UInt8) (e : Ending) (w' : World) (p : Nat) (v : Value) (l : List UInt8) (i : Nat) : Prop :=
  match cidRd L with
  | some (_, k) => e = .returned (.tuple #[.int .i64 (k : Int), .agg #[.string ⟨(L.take k).toArray⟩], .nilIface]) ∧ Rdr w' p v l (i + k)
  | none => FrBad e ∧ ∃ j, Rdr w' p v l j
theorem FrSays.no {L : List UInt8} {e : Ending} {w' : World} {p : Nat} {v : Value} {l : List UInt8} {i : Nat} (h : cidRd L = none) (hb : FrBad e) (hj : ∃ j, Rdr w' p v l j) : FrSays L e w' p v l i := by
  unfold FrSays; rw [h]; exact ⟨hb, hj⟩
theorem FrSays.ok {L : List UInt8} {e : Ending} {w' : World} {p : Nat} {v : Value} {l : List UInt8} {i k : Nat} {c : CidD} (h : cidRd L = some (c, k)) (hb : e = .returned (.tuple #[.int .i64 (k : Int), .agg #[.string ⟨(L.take k).toArray⟩], .nilIface])) (hj : Rdr w' p v l (i + k)) : FrSays L e w' p v l i := by
  unfold FrSays; rw [h]; exact ⟨hb, hj⟩

theorem cidFromReader (q p N : Nat) (v : Value) (l L : List UInt8) (i : Nat) (w : World) (hr : Rdr w p v l i) (hl : LimAt w q p N) (hpq : p < q) (hN2 : N ≤ 9223372036854775807) (hL : L = (l.drop i).take N) (hL0 : L.length ≠ 0) (hL2 : L.length ≤ 33554432)
    (e0 e1 e2 e3 : Addr) (he : SeErrs p w e0 e1 e2 e3) (hu : ∀ W, Keep (fun k => p ≤ k) w W → CdS W) :
    Calls Tryd.prog 89 #[limV q] w fun e w' => FrSays L e w' p v l i ∧ Keep (fun k => k = p ∨ k = q) w w' := by
  have bad : cidRd L = none → (Calls Tryd.prog 89 #[limV q] w fun e w' => FrBad e ∧ (∃ j, Rdr w' p v l j) ∧ Keep (fun k => k = p ∨ k = q) w w') →
      Calls Tryd.prog 89 #[limV q] w fun e w' => FrSays L e w' p v l i ∧ Keep (fun k => k = p ∨ k = q) w w' := fun h hc =>
    hc.mono fun e w' ⟨h1, h2, h3⟩ => ⟨FrSays.no h h1 h2, h3⟩
  rcases uvR_cases (uvDec L) with ⟨x0, m0, hd0⟩ | hno
  · by_cases h18 : x0 = 18
    · subst h18
      by_cases h34 : L.length < 34
      · refine bad ?_ (fr_zeroShort q p N v l L i w hr hl hpq hN2 hL e0 e1 e2 e3 he hu m0 hd0 h34)
        by_cases hz : cidZero L
        · unfold cidRd; rw [if_pos hz, if_pos h34]
        · exact cid_notZero hz (.inr ⟨_, _, hd0, by omega⟩)
      · by_cases hz : cidZero L
        · refine (fr_zeroOk q p N v l L i w hr hl hpq hN2 hL e0 e1 e2 e3 he hu m0 hd0 (by omega) hz).mono fun e w' ⟨h1, h2, h3⟩ => ⟨FrSays.ok (c := ⟨0, 112, 18, (L.drop 2).take 32⟩) (k := 34) ?_ h1 h2, h3⟩
          unfold cidRd; rw [if_pos hz, if_neg h34]
        · exact bad (cid_notZero hz (.inr ⟨_, _, hd0, by omega⟩)) (fr_zeroBad q p N v l L i w hr hl hpq hN2 hL e0 e1 e2 e3 he hu m0 hd0 (by omega) hz)
    · have hz : ¬ cidZero L := fun hz => by have := zero_ver hz; rw [hd0] at this; injection this with h1; omega
      by_cases h1 : x0 = 1
      · subst h1
        have z0 : 0 + m0 = m0 := Nat.zero_add _
        rcases uvR_cases (uvDec (L.drop (0 + m0))) with ⟨x1, m1, hd1⟩ | hno
        · have hmh := cid_one_mh hd0 (by rw [z0] at hd1; exact hd1)
          rcases uvR_cases (uvDec (L.drop (0 + m0 + m1))) with ⟨x2, m2, hd2⟩ | hno
          · rcases uvR_cases (uvDec (L.drop (0 + m0 + m1 + m2))) with ⟨x, m3, hd3⟩ | hno
            · have hmr := mhRd_ok (l := L.drop (m0 + m1)) (x2 := x2) (m2 := m2) (x := x) (m3 := m3) (by rw [z0] at hd2; exact hd2) (by rw [List.drop_drop]; rw [z0] at hd3; exact hd3)
              rw [List.drop_drop, List.drop_drop, List.length_drop] at hmr
              obtain ⟨_, h02, _⟩ := uvDec_ok hd0
              obtain ⟨_, h12, _⟩ := uvDec_ok hd1
              obtain ⟨_, h22, _⟩ := uvDec_ok hd2
              obtain ⟨_, h32, h33, _⟩ := uvDec_ok hd3
              rw [List.length_drop] at h12 h22 h32
              by_cases hbig : 33554432 < x
              · rw [if_pos (by omega)] at hmr
                rw [hmr] at hmh
                exact bad hmh (fr_oneBig q p N v l L i w hr hl hpq hN2 hL e0 e1 e2 e3 he hu m0 x1 m1 x2 m2 x m3 hd0 hd1 hd2 hd3 hbig)
              · by_cases hlt : L.length < 0 + m0 + m1 + m2 + m3 + x
                · rw [if_pos (by omega)] at hmr
                  rw [hmr] at hmh
                  by_cases h64 : 0 + m0 + m1 + m2 + m3 + x ≤ 64
                  · exact bad hmh (fr_oneShort q p N v l L i w hr hl hpq hN2 hL e0 e1 e2 e3 he hu m0 x1 m1 x2 m2 x m3 hd0 hd1 hd2 hd3 h64 hlt)
                  · exact bad hmh (fr_growShort q p N v l L i w hr hl hpq hN2 hL e0 e1 e2 e3 he hu m0 x1 m1 x2 m2 x m3 hd0 hd1 hd2 hd3 (by omega) (by omega) hlt)
                · rw [if_neg (by omega)] at hmr
                  rw [hmr] at hmh
                  dsimp only at hmh
                  have hk : m0 + m1 + (m2 + m3 + x) = 0 + m0 + m1 + m2 + m3 + x := by omega
                  rw [hk] at hmh
                  by_cases h64 : 0 + m0 + m1 + m2 + m3 + x ≤ 64
                  · exact (fr_oneOk q p N v l L i w hr hl hpq hN2 hL e0 e1 e2 e3 he hu m0 x1 m1 x2 m2 x m3 hd0 hd1 hd2 hd3 h64 (by omega)).mono fun e w' ⟨h1, h2, h3⟩ => ⟨FrSays.ok hmh h1 h2, h3⟩
                  · exact (fr_growOk q p N v l L i w hr hl hpq hN2 hL e0 e1 e2 e3 he hu m0 x1 m1 x2 m2 x m3 hd0 hd1 hd2 hd3 (by omega) (by omega) (by omega)).mono fun e w' ⟨h1, h2, h3⟩ => ⟨FrSays.ok hmh h1 h2, h3⟩
            · have := mhRd_no2 (l := L.drop (m0 + m1)) (x2 := x2) (m2 := m2) (by rw [z0] at hd2; exact hd2) (by rw [List.drop_drop]; rw [z0] at hno; exact hno)
              rw [this] at hmh
              exact bad hmh (fr_noLen q p N v l L i w hr hl hpq hN2 hL e0 e1 e2 e3 he hu m0 hd0 x1 m1 hd1 x2 m2 hd2 hno)
          · have := mhRd_no1 (l := L.drop (m0 + m1)) (by rw [z0] at hno; exact hno)
            rw [this] at hmh
            exact bad hmh (fr_noCode q p N v l L i w hr hl hpq hN2 hL e0 e1 e2 e3 he hu m0 hd0 x1 m1 hd1 hno)
        · exact bad (cid_one_no hd0 (by rw [z0] at hno; exact hno)) (fr_noCodec q p N v l L i w hr hl hpq hN2 hL e0 e1 e2 e3 he hu m0 hd0 hno)
      · exact bad (cid_notZero hz (.inr ⟨_, _, hd0, h1⟩)) (fr_badVer q p N v l L i w hr hl hpq hN2 hL e0 e1 e2 e3 he hu x0 m0 hd0 h18 h1)
  · have hz : ¬ cidZero L := fun hz => by have := zero_ver hz; rw [this] at hno; exact hno
    exact bad (cid_notZero hz (.inl hno)) (fr_noVer q p N v l L i w hr hl hpq hN2 hL hL0 e0 e1 e2 e3 he hu hno)
end Go.Proofs.YthfgnhgijgjggaaDoor
/- Contracts: util.LdReadSize where it answers an error; impl.kind of an error. -/
namespace Go.Proofs.YthfgnhgijgjggaaDoor
open Go.RowKit

/-- An error that is told apart from io.EOF. -/
def NotEOF (w : World) (E : Value) (e0 : Addr) : Prop := ∃ t y, E = .iface t y ∧ (binOp .eql 84 E (errV e0)).run Tryd.prog w = .ok (.bool false) w

set_option maxRecDepth 100000 in
set_option maxHeartbeats 1000000 in
theorem kind_other (w : World) (e0 : Addr) (hc : w.cell? ⟨0, 0, none⟩ = some (errV e0)) (E : Value) (hE : NotEOF w E e0) : Calls Tryd.prog 52 #[E] w fun e w' => e = .returned (.int .u8 2) ∧ w' = w := by
  obtain ⟨t, y, rfl, hq⟩ := hE
  go_enter Tryd.func52, Tryd.ntmps52
  go_wp2
  go_ret
  exact ⟨rfl, rfl⟩

set_option maxRecDepth 100000 in
set_option maxHeartbeats 1000000 in
/-- Nothing is there: the end. -/
theorem ldSize_empty (p : Nat) (v : Value) (l : List UInt8) (i : Nat) (w : World) (hr : Rdr w p v l i) (e0 e1 e2 e3 : Addr) (he : SeErrs p w e0 e1 e2 e3) (hd : l.drop i = []) (z : Bool) (most : Nat) :
    Calls Tryd.prog 86 #[rdV p, .bool z, .int .u64 most] w fun e w' => e = .returned (.tuple #[.int .u64 0, errV e0]) ∧ (∃ j, Rdr w' p v l j) ∧ Keep (fun k => k = p) w w' := by
  have HB := Lib.hid (readUv p v l i w hr e0 e1 _ _ _ _ he.uv)
  have hi : i = l.length := by have := congrArg List.length hd; rw [List.length_drop] at this; simp at this; have := hr.le; omega
  rw [hd, if_pos hi] at HB
  have HT := fun W => Lib.hid (toByteReader p W)
  clear hr he hd hi
  go_enter Tryd.func86, Tryd.ntmps86
  go_wp2_with fail
  refine (HT _).out.mono ?_
  rintro e w1 ⟨rfl, rfl⟩
  go_wp2_with fail
  refine HB.out.mono ?_
  rintro e w2 ⟨rfl, ⟨j, _, hr2⟩, hk⟩
  have HR2 := Lib.hid hr2
  clear hr2 HB HT
  unfold uvDec uvGo UvR.rd
  dsimp only
  go_wp2
  go_ret2
  exact ⟨rfl, ⟨j, HR2.out⟩, hk⟩

set_option maxRecDepth 100000 in
set_option maxHeartbeats 1000000 in
/-- The length can't be read. -/
theorem ldSize_no (p : Nat) (v : Value) (l : List UInt8) (i : Nat) (w : World) (hr : Rdr w p v l i) (e0 e1 e2 e3 : Addr) (he : SeErrs p w e0 e1 e2 e3) (hd : l.drop i ≠ []) (hno : (uvDec (l.drop i)).no) (z : Bool) (most : Nat) :
    Calls Tryd.prog 86 #[rdV p, .bool z, .int .u64 most] w fun e w' => ∃ E, e = .returned (.tuple #[.int .u64 0, E]) ∧ (∀ W, Keep (fun k => p ≤ k) w' W → NotEOF W E e0) ∧ (∃ j, Rdr w' p v l j) ∧ Keep (fun k => k = p) w w' := by
  have HB := Lib.hid (readUv p v l i w hr e0 e1 _ _ _ _ he.uv)
  have hi : ¬ i = l.length := fun h => hd (by rw [h, List.drop_length])
  rw [if_neg hi] at HB
  obtain ⟨a, ha, hq⟩ := he.bad hno
  rw [ha] at HB
  have HQ := Lib.hid hq
  have HT := fun W => Lib.hid (toByteReader p W)
  clear hr he hd hi ha hq hno
  go_enter Tryd.func86, Tryd.ntmps86
  go_wp2_with fail
  refine (HT _).out.mono ?_
  rintro e w1 ⟨rfl, rfl⟩
  go_wp2_with fail
  refine HB.out.mono ?_
  rintro e w2 ⟨rfl, ⟨j, _, hr2⟩, hk⟩
  have HR2 := Lib.hid hr2
  clear hr2 HB HT
  go_wp2
  go_ret2
  exact ⟨_, rfl, fun W hW => ⟨_, _, rfl, HQ.out _ W ((hk.mono (T := fun k => p ≤ k) (fun _ _ h => by omega)).trans hW) (fun _ h => h)⟩, ⟨j, HR2.out⟩, hk⟩

set_option maxRecDepth 100000 in
set_option maxHeartbeats 1000000 in
/-- The length is too large. -/
theorem ldSize_big (p : Nat) (v : Value) (l : List UInt8) (i : Nat) (w : World) (hr : Rdr w p v l i) (e0 e1 e2 e3 e4 : Addr) (he : SeErrs p w e0 e1 e2 e3) (he4 : ErrAt p w 6 e4) (hn4 : e4 ≠ e0) (x m : Nat) (hd : uvDec (l.drop i) = .ok x m) (z : Bool) (most : Nat) (hx : most < x) :
    Calls Tryd.prog 86 #[rdV p, .bool z, .int .u64 most] w fun e w' => ∃ E, e = .returned (.tuple #[.int .u64 0, E]) ∧ (∀ W, Keep (fun k => p ≤ k) w' W → NotEOF W E e0) ∧ (∃ j, Rdr w' p v l j) ∧ Keep (fun k => k = p) w w' := by
  have HB := Lib.hid (readUv p v l i w hr e0 e1 _ _ _ _ he.uv)
  rw [hd] at HB
  have HE := Lib.hid he
  have HE4 := Lib.hid he4
  have HT := fun W => Lib.hid (toByteReader p W)
  have hx0 : ((x : Int) == 0) = false := by simp; omega
  have hx2 : (most : Int) < x := by omega
  clear hr he hd he4 hx
  go_enter Tryd.func86, Tryd.ntmps86
  go_wp2_with fail
  refine (HT _).out.mono ?_
  rintro e w1 ⟨rfl, rfl⟩
  go_wp2_with fail
  refine HB.out.mono ?_
  unfold UvR.rd UvR.at_
  dsimp only
  rintro e w2 ⟨rfl, ⟨j, rfl, hr2⟩, hk⟩
  have HR2 := Lib.hid hr2
  have hc4 := (HE4.out.keep hk (fun k h => by omega)).cell
  clear hr2 HB HT
  go_wp2
  go_quiet (fail)
  go_wp2
  go_ret2
  refine ⟨_, rfl, fun W hW => ?_, ⟨_, HR2.out.keep (keep_drewN (fun _ => False) _ _) (fun _ h => h.elim)⟩, hk.drewN _⟩
  have hk2 : Keep (fun k => p ≤ k) w1 W := ((hk.mono (T := fun k => p ≤ k) (fun _ _ h => by omega)).drewN _).trans hW
  exact ⟨_, _, rfl, run_eqErr_other hn4 (HE4.out.keep hk2 (fun _ h => h)).row (HE.out.eof.keep hk2 (fun _ h => h)).row⟩
end Go.Proofs.YthfgnhgijgjggaaDoor
/- Contract: util.ReadNodeHeader. -/
namespace Go.Proofs.YthfgnhgijgjggaaDoor
open Go.RowKit

section
variable {P : Program}
/-- Three results, the first a struct in a block that is known whole. -/
theorem results_row_tmp_tmp {fn : Func} {p u u2 : Tmp} {ty : TypeId} (h : fn.results = #[.cell p ty, .tmp u, .tmp u2]) (tmps : Array Value) (w : World) (g : Nat) (t : TypeId) (cs : Array Value) (fr : Nat × Nat) (d : TypeDesc)
    (hp : tmps.getD p undef = .pointer (some ⟨g, 0, none⟩)) (hg : w.heap[g]? = some (.cells cs t fr))
    (hu : P.underlying ty = some d) (hd : (match d with | .struct _ | .array _ _ => true | _ => false) = true) (hi : (P.info? ty).map (·.size) = some cs.size) :
    (results fn tmps).run P w = .ok (.tuple #[.agg cs, tmps.getD u undef, tmps.getD u2 undef]) w := by
  have hp' : tmps[p]?.getD undef = .pointer (some ⟨g, 0, none⟩) := by simpa using hp
  simp only [results, h]
  simp [Result.andThen, hp', asAddr, run_loadVar_row w g t ty cs fr d hg hu hd hi]
/-- Four. -/
theorem results_row_tmp3 {fn : Func} {p u u2 u3 : Tmp} {ty : TypeId} (h : fn.results = #[.cell p ty, .tmp u, .tmp u2, .tmp u3]) (tmps : Array Value) (w : World) (g : Nat) (t : TypeId) (cs : Array Value) (fr : Nat × Nat) (d : TypeDesc)
    (hp : tmps.getD p undef = .pointer (some ⟨g, 0, none⟩)) (hg : w.heap[g]? = some (.cells cs t fr))
    (hu : P.underlying ty = some d) (hd : (match d with | .struct _ | .array _ _ => true | _ => false) = true) (hi : (P.info? ty).map (·.size) = some cs.size) :
    (results fn tmps).run P w = .ok (.tuple #[.agg cs, tmps.getD u undef, tmps.getD u2 undef, tmps.getD u3 undef]) w := by
  have hp' : tmps[p]?.getD undef = .pointer (some ⟨g, 0, none⟩) := by simpa using hp
  simp only [results, h]
  simp [Result.andThen, hp', asAddr, run_loadVar_row w g t ty cs fr d hg hu hd hi]
end

theorem notEOF_cid (W : World) (y : Value) (e0 : Addr) : NotEOF W (.iface 159 y) e0 :=
  ⟨_, _, rfl, run_eql_iface_types _ _ _ _ Tryd.underlying84 (by decide) W⟩

set_option maxRecDepth 100000 in
set_option maxHeartbeats 8000000 in
/-- No bytes: no identifier. -/
theorem cidFrom_empty (A : Option Addr) (c : Nat) (w : World) (hu : CdS w) :
    Calls Tryd.prog 85 #[.slice A 0 c] w fun e w' => (∃ (s : ByteArray) (y : Value), e = .returned (.tuple #[.int .i64 0, .agg #[.string s], .iface 159 y])) ∧ Below w.heap.size w w' := by
  have hA : Below w.heap.size w (w.alloc cidZ) := (Below.refl _ _).alloc (Nat.le_refl _) _
  have hs1 : BS (w.alloc cidZ) (.slice A 0 c) [] := ⟨A, c, rfl, Nat.zero_le _, fun h => absurd h (by simp)⟩
  obtain ⟨us, hus⟩ := (hu.below hA).undef
  have C1 := Lib.hid (fromUv_no A 0 c [] _ hs1 (by simp) (hu.below hA).toUvS (show (uvDec []).no from trivial))
  have HUS := Lib.hid hus
  have hn2 : ¬ (2 : Int) < 0 := by omega
  clear hs1 hu hus hA
  go_enter Tryd.func85, Tryd.ntmps85
  go_wp2_with fail
  refine C1.out.mono ?_
  rintro e w1 ⟨t, p, rfl, hb1⟩
  obtain ⟨p1, p2, p3, p4, p5⟩ := from_fin HUS.out hb1
  go_wp2_with fail
  go_region
  all_goals
    go_wp2
    refine bodyPost_ret (results_tmp_row_tmp rfl _ _ (w.heap.size) 80 #[.string us] (0, 0) _ rfl p4.out Tryd.underlying80 rfl (by kernel_rfl)) rfl ?_
    exact ⟨⟨_, _, rfl⟩, p5.out.drewN 1⟩

/-- An error, and what impl.kind says of it. -/
def ErrK (p : Nat) (w' : World) (E : Value) (k : Nat) : Prop := (∃ t y, E = .iface t y) ∧ ∀ W, Keep (fun k => p ≤ k) w' W → Calls Tryd.prog 52 #[E] W fun e w'' => e = .returned (.int .u8 k) ∧ w'' = W
theorem ErrK.keep {p k : Nat} {w w' : World} {E : Value} (h : ErrK p w E k) (hk : Keep (fun k => p ≤ k) w w') : ErrK p w' E k := ⟨h.1, fun W hW => h.2 W (hk.trans hW)⟩
theorem errK_other {p : Nat} {w w' : World} {E : Value} {e0 e1 e2 e3 : Addr} (he : SeErrs p w e0 e1 e2 e3) (hk : Keep (fun k => p ≤ k) w w') (h : ∀ W, Keep (fun k => p ≤ k) w' W → NotEOF W E e0) : ErrK p w' E 2 := by
  refine ⟨?_, fun W hW => kind_other W e0 (he.eof.keep (hk.trans hW) (fun _ h => h)).cell E (h W hW)⟩
  obtain ⟨t, y, h1, _⟩ := h w' (Keep.refl _ _)
  exact ⟨t, y, h1⟩
theorem errK_end {p : Nat} {w w' : World} {e0 e1 e2 e3 : Addr} (he : SeErrs p w e0 e1 e2 e3) (hk : Keep (fun k => p ≤ k) w w') : ErrK p w' (errV e0) 1 :=
  ⟨⟨_, _, rfl⟩, fun W hW => kind_end p W e0 (he.eof.keep (hk.trans hW) (fun _ h => h))⟩

/-- No identifier was read. -/
def NodeBad (k : Nat) (p : Nat) (v : Value) (l : List UInt8) (w : World) (e : Ending) (w' : World) : Prop :=
  ∃ (s : ByteArray) (E : Value), e = .returned (.tuple #[.agg #[.string s], .int .u64 0, E]) ∧ ErrK p w' E k ∧ (∃ j, Rdr w' p v l j) ∧ Keep (fun k => k = p) w w'

set_option maxRecDepth 100000 in
set_option maxHeartbeats 8000000 in
/-- The length is an error. -/
theorem node_err (k p : Nat) (v : Value) (w : World) (z : Bool) (most : Nat) (hmost : most ≤ 33554432) (l : List UInt8) (hpw : p < w.heap.size)
    (hS : Calls Tryd.prog 86 #[rdV p, .bool z, .int .u64 most] (w.alloc cidZ) fun e w' => ∃ E, e = .returned (.tuple #[.int .u64 0, E]) ∧ ErrK p w' E k ∧ (∃ j, Rdr w' p v l j) ∧ Keep (fun k => k = p) (w.alloc cidZ) w') :
    Calls Tryd.prog 59 #[rdV p, .bool z, .int .u64 most] w (NodeBad k p v l w) := by
  have hr0 := heap_alloc_new w cidZ
  have hA : Below w.heap.size w (w.alloc cidZ) := (Below.refl _ _).alloc (Nat.le_refl _) _
  have hmin : min (most : Int) 9223372036854775807 = most := by omega
  have HA := Lib.hid hA
  have HS := Lib.hid hS
  clear hS hA
  go_enter Tryd.func59, Tryd.ntmps59
  go_wp2_with fail
  refine HS.out.mono ?_
  rintro e w1 ⟨_, rfl, ⟨⟨t, y, rfl⟩, hE⟩, hj, hk⟩
  have hr1 := hk.row hr0 (fun h => by omega)
  have k0 := cell_of_row' (cur := [_]) hr1 0
  have f0 := frozen_of_row' (cur := [_]) hr1 0
  have p4 := Lib.hid (Lib.heap_setCell_same (i := 0) hr1 (.string ⟨#[]⟩))
  have hk1 : Keep (fun k => k = w.heap.size) w1 (w1.setCell ⟨w.heap.size, 0, none⟩ (.string ⟨#[]⟩)) := Keep.setCell (S := fun k => k = w.heap.size) (Keep.refl _ _) rfl _ _
  have hfin : Hid (ErrK p (w1.setCell ⟨w.heap.size, 0, none⟩ (.string ⟨#[]⟩)) (.iface t y) k ∧ (∃ j, Rdr (w1.setCell ⟨w.heap.size, 0, none⟩ (.string ⟨#[]⟩)) p v l j) ∧ Keep (fun k => k = p) w (w1.setCell ⟨w.heap.size, 0, none⟩ (.string ⟨#[]⟩))) := by
    obtain ⟨j, hj⟩ := hj
    refine Lib.hid ⟨ErrK.keep ⟨⟨_, _, rfl⟩, hE⟩ (hk1.mono fun _ _ h => by omega), ⟨j, hj.keep hk1 (fun k h => by omega)⟩, ?_⟩
    exact (((HA.out.keep (S := fun k => k = p ∨ k = w.heap.size)).trans (hk.mono fun _ _ h => Or.inl h)).trans (hk1.mono fun _ _ h => Or.inr h)).mono (fun k hk h => by omega)
  clear hE hk1 hj hk hr1 hr0
  go_wp2
  refine bodyPost_ret (results_row_tmp_tmp rfl _ _ (w.heap.size) 80 #[.string ⟨#[]⟩] (0, 0) _ rfl p4.out Tryd.underlying80 rfl (by kernel_rfl)) rfl ?_
  exact ⟨_, _, rfl, hfin.out⟩

set_option maxRecDepth 100000 in
set_option maxHeartbeats 8000000 in
/-- The length is 0. -/
theorem node_zero (p : Nat) (v : Value) (l : List UInt8) (i : Nat) (w : World) (hr : Rdr w p v l i) (e0 e1 e2 e3 : Addr) (he : SeErrs p w e0 e1 e2 e3) (hu : ∀ W, Keep (fun k => p ≤ k) w W → CdS W) (m : Nat) (hd : uvDec (l.drop i) = .ok 0 m) (most : Nat) (hmost : most ≤ 33554432) :
    Calls Tryd.prog 59 #[rdV p, .bool false, .int .u64 most] w (NodeBad 2 p v l w) := by
  have hpw : p < w.heap.size := by obtain ⟨r, h⟩ := hr.row; exact block_of_row h
  have hr0 := heap_alloc_new w cidZ
  have hA : Below w.heap.size w (w.alloc cidZ) := (Below.refl _ _).alloc (Nat.le_refl _) _
  have hmin : min (most : Int) 9223372036854775807 = most := by omega
  have HA := Lib.hid hA
  have he' := he.keep (S := fun _ => False) hA.keep (fun _ h => h.elim)
  have HS := Lib.hid (ldSize_ok p v l i _ (hr.keep (S := fun _ => False) hA.keep (fun _ h => h.elim)) e0 e1 _ _ _ _ he'.uv 0 m hd false most (Nat.zero_le _) (fun h => by cases h))
  have HE := Lib.hid he'
  have HU := Lib.hid hu
  clear hA he he' hu hr hd
  go_enter Tryd.func59, Tryd.ntmps59
  go_wp2_with fail
  refine HS.out.mono ?_
  rintro e w1 ⟨rfl, hr1, hk⟩
  have hk1 : Keep (fun k => p ≤ k) w w1 := (HA.out.keep).trans (hk.mono fun _ _ h => by omega)
  have HC := fun (A : Option Addr) (c : Nat) (W : World) (hW : Below w1.heap.size w1 W) => Lib.hid (cidFrom_empty A c W (HU.out W (hk1.trans hW.keep)))
  have HR1 := Lib.hid hr1
  have HK := Lib.hid hk
  have HK1 := Lib.hid hk1
  clear hr1 hk hk1 HS
  go_wp2_with fail
  have hb1 : Below w1.heap.size w1 (w1.alloc (.cells #[] 5)) := (Below.refl _ _).alloc (Nat.le_refl _) _
  refine (HC _ _ _ hb1).out.mono ?_
  rintro e w2 ⟨⟨s, y, rfl⟩, hb2⟩
  have hb := below_next hb1 hb2
  obtain ⟨us, hus⟩ := (HU.out _ (HK1.out.trans hb.keep)).undef
  have hz2 : w1.heap.size + 1 ≤ w2.heap.size := by have := hb2.size; simp at this; omega
  obtain ⟨W3, hW3⟩ : ∃ W3, W3 = w2.alloc (.cells #[.string s] 80) := ⟨_, rfl⟩
  have hb3 : Below w2.heap.size w2 W3 := hW3 ▸ (Below.refl _ w2).alloc (Nat.le_refl _) _
  have hr3 := row_below hb3 (block_of_row (row_below hb (block_of_row (HK.out.row hr0 (fun h => by omega))) (HK.out.row hr0 (fun h => by omega)))) (row_below hb (block_of_row (HK.out.row hr0 (fun h => by omega))) (HK.out.row hr0 (fun h => by omega)))
  have k0 := cell_of_row' (cur := [_]) hr3 0
  have f0 := frozen_of_row' (cur := [_]) hr3 0
  have hus3 := below_cell hb3 hus
  have p4 := Lib.hid (Lib.heap_setCell_same (i := 0) hr3 (.string us))
  have hk3 : Keep (fun k => k = w.heap.size) w1 (W3.setCell ⟨w.heap.size, 0, none⟩ (.string us)) := Keep.setCell (S := fun k => k = w.heap.size) (hb.keep.trans hb3.keep) rfl _ _
  have hfin : Hid (ErrK p (W3.setCell ⟨w.heap.size, 0, none⟩ (.string us)) (.iface 159 y) 2 ∧ (∃ j, Rdr (W3.setCell ⟨w.heap.size, 0, none⟩ (.string us)) p v l j) ∧ Keep (fun k => k = p) w (W3.setCell ⟨w.heap.size, 0, none⟩ (.string us))) := by
    refine Lib.hid ⟨errK_other HE.out ((HK.out.mono (T := fun k => p ≤ k) fun _ _ h => by omega).trans (hk3.mono fun _ _ h => by omega)) (fun W _ => notEOF_cid W y e0), ⟨_, HR1.out.keep hk3 (fun k h => by omega)⟩, ?_⟩
    exact (((HA.out.keep (S := fun k => k = p ∨ k = w.heap.size)).trans (HK.out.mono fun _ _ h => Or.inl h)).trans (hk3.mono fun _ _ h => Or.inr h)).mono (fun k hk h => by omega)
  rw [hW3] at k0 f0 hus3 hfin p4
  clear hk3 hr3 hus hb3 hW3 hb hb1 hb2 HC hr0
  go_wp2
  refine bodyPost_ret (results_row_tmp_tmp rfl _ _ (w.heap.size) 80 #[.string us] (0, 0) _ rfl p4.out Tryd.underlying80 rfl (by kernel_rfl)) rfl ?_
  exact ⟨_, _, rfl, hfin.out⟩

/-- The reader and its limit behind a length. -/
theorem lim_start {p m i : Nat} {v : Value} {l : List UInt8} {w1 : World} (hr1 : Rdr w1 p v l (i + m)) (x : Nat) :
    p < w1.heap.size ∧ Rdr (w1.alloc (.cells #[rdV p, .int .i64 x] 204)) p v l (i + m) ∧ LimAt (w1.alloc (.cells #[rdV p, .int .i64 x] 204)) w1.heap.size p x := by
  obtain ⟨r, h⟩ := hr1.row
  exact ⟨block_of_row h, hr1.keep (S := fun _ => False) ((Below.refl _ w1).alloc (Nat.le_refl _) _).keep (fun _ h => h.elim), heap_alloc_new w1 _⟩

set_option maxRecDepth 100000 in
set_option maxHeartbeats 8000000 in
/-- No identifier lies behind the length. -/
theorem node_no (p : Nat) (v : Value) (l : List UInt8) (i : Nat) (w : World) (hr : Rdr w p v l i) (e0 e1 e2 e3 : Addr) (he : SeErrs p w e0 e1 e2 e3) (hu : ∀ W, Keep (fun k => p ≤ k) w W → CdS W) (x m : Nat) (hd : uvDec (l.drop i) = .ok x m) (z : Bool) (most : Nat) (hmost : most ≤ 33554432) (hx : 0 < x) (hxm : x ≤ most)
    (L : List UInt8) (hL : L = (l.drop (i + m)).take x) (hL0 : L.length ≠ 0) (hno : cidRd L = none) :
    Calls Tryd.prog 59 #[rdV p, .bool z, .int .u64 most] w (NodeBad 2 p v l w) := by
  have hpw : p < w.heap.size := by obtain ⟨r, h⟩ := hr.row; exact block_of_row h
  have hr0 := heap_alloc_new w cidZ
  have hA : Below w.heap.size w (w.alloc cidZ) := (Below.refl _ _).alloc (Nat.le_refl _) _
  have hmin : min (most : Int) 9223372036854775807 = most := by omega
  have HA := Lib.hid hA
  have he' := he.keep (S := fun _ => False) hA.keep (fun _ h => h.elim)
  have HS := Lib.hid (ldSize_ok p v l i _ (hr.keep (S := fun _ => False) hA.keep (fun _ h => h.elim)) e0 e1 _ _ _ _ he'.uv x m hd z most hxm (fun _ => by omega))
  have HE := Lib.hid he'
  have HU := Lib.hid hu
  have hL2 : L.length ≤ 33554432 := by rw [hL, List.length_take]; omega
  have wr : IntKind.i64.wrap (x : Int) = x := IntWalk.i64_in _ (by omega)
  have hx0 : ((x : Int) == 0) = false := by simp; omega
  have HL := Lib.hid hL
  have HL0 := Lib.hid hL0
  have HNO := Lib.hid hno
  clear hA he he' hu hr hd hL hL0 hno
  go_enter Tryd.func59, Tryd.ntmps59
  go_wp2_with fail
  refine HS.out.mono ?_
  rintro e w1 ⟨rfl, hr1, hk⟩
  obtain ⟨hp1, hr2, hl2⟩ := lim_start hr1 x
  have hk1 : Keep (fun k => p ≤ k) w w1 := (HA.out.keep).trans (hk.mono fun _ _ h => by omega)
  obtain ⟨w2, hw2⟩ : ∃ w2, w2 = w1.alloc (.cells #[rdV p, .int .i64 x] 204) := ⟨_, rfl⟩
  have hb2 : Below w1.heap.size w1 w2 := hw2 ▸ (Below.refl _ w1).alloc (Nat.le_refl _) _
  have HLR := Lib.hid (limitReader p x w1)
  rw [← hw2] at hr2 hl2 HLR
  have hk2 : Keep (fun k => p ≤ k) w w2 := hk1.trans hb2.keep
  have he2 := HE.out.keep ((hk.mono (T := fun k => p ≤ k) fun _ _ h => by omega).trans hb2.keep) (fun _ h => h)
  have HC := Lib.hid (cidFromReader w1.heap.size p x v l L (i + m) w2 hr2 hl2 hp1 (by omega) HL.out HL0.out hL2 e0 e1 e2 e3 he2 (fun W hW => HU.out W (hk2.trans hW)))
  have hrw := hk.row hr0 (fun h => by omega)
  have HR0 := Lib.hid (row_below hb2 (block_of_row hrw) hrw)
  have hcs := block_of_row hrw
  have HK := Lib.hid (hk.trans hb2.keep)
  have HE2 := Lib.hid he2
  generalize w1.heap.size = q at *
  clear hr1 hk hk1 hk2 he2 hr2 hl2 hr0 hrw hw2 hb2
  go_wp2_with fail
  refine HLR.out.mono ?_
  rintro e w3 ⟨rfl, rfl⟩
  go_wp2_with fail
  refine HC.out.mono ?_
  rintro e w4 ⟨hsay, hk4⟩
  unfold FrSays at hsay
  rw [HNO.out] at hsay
  obtain ⟨⟨n, s, y, rfl⟩, hj⟩ := hsay
  have hr4 := hk4.row HR0.out (fun h => by omega)
  obtain ⟨W3, hW3⟩ : ∃ W3, W3 = w4.alloc (.cells #[.string s] 80) := ⟨_, rfl⟩
  have hb3 : Below w4.heap.size w4 W3 := hW3 ▸ (Below.refl _ w4).alloc (Nat.le_refl _) _
  have hr3 := row_below hb3 (block_of_row hr4) hr4
  have k0 := cell_of_row' (cur := [_]) hr3 0
  have f0 := frozen_of_row' (cur := [_]) hr3 0
  have p4 := Lib.hid (Lib.heap_setCell_same (i := 0) hr3 (.string ⟨#[]⟩))
  have hk5 : Keep (fun k => k = w.heap.size) w4 (W3.setCell ⟨w.heap.size, 0, none⟩ (.string ⟨#[]⟩)) := Keep.setCell (S := fun k => k = w.heap.size) hb3.keep rfl _ _
  have hfin : Hid (ErrK p (W3.setCell ⟨w.heap.size, 0, none⟩ (.string ⟨#[]⟩)) (.iface 159 y) 2 ∧ (∃ j, Rdr (W3.setCell ⟨w.heap.size, 0, none⟩ (.string ⟨#[]⟩)) p v l j) ∧ Keep (fun k => k = p) w (W3.setCell ⟨w.heap.size, 0, none⟩ (.string ⟨#[]⟩))) := by
    obtain ⟨j, hj⟩ := hj
    refine Lib.hid ⟨errK_other HE2.out ((hk4.mono (T := fun k => p ≤ k) fun _ _ h => by omega).trans (hk5.mono fun _ _ h => by omega)) (fun W _ => notEOF_cid W y e0), ⟨_, hj.keep hk5 (fun k h => by omega)⟩, ?_⟩
    exact ((((HA.out.keep (S := fun k => k = p ∨ k = q ∨ k = w.heap.size)).trans (HK.out.mono fun _ _ h => Or.inl h)).trans (hk4.mono fun _ _ h => by omega)).trans (hk5.mono fun _ _ h => Or.inr (Or.inr h))).mono (fun k hk h => by omega)
  rw [hW3] at k0 f0 hfin p4
  clear hk5 hr3 hb3 hW3 hk4 hr4 hj HC
  go_wp2
  refine bodyPost_ret (results_row_tmp_tmp rfl _ _ (w.heap.size) 80 #[.string ⟨#[]⟩] (0, 0) _ rfl p4.out Tryd.underlying80 rfl (by kernel_rfl)) rfl ?_
  exact ⟨_, _, rfl, hfin.out⟩

set_option maxRecDepth 100000 in
set_option maxHeartbeats 8000000 in
/-- An identifier lies behind the length. -/
theorem node_ok (p : Nat) (v : Value) (l : List UInt8) (i : Nat) (w : World) (hr : Rdr w p v l i) (e0 e1 e2 e3 : Addr) (he : SeErrs p w e0 e1 e2 e3) (hu : ∀ W, Keep (fun k => p ≤ k) w W → CdS W) (x m : Nat) (hd : uvDec (l.drop i) = .ok x m) (z : Bool) (most : Nat) (hmost : most ≤ 33554432) (hx : 0 < x) (hxm : x ≤ most)
    (L : List UInt8) (hL : L = (l.drop (i + m)).take x) (hL0 : L.length ≠ 0) (c : CidD) (k : Nat) (hok : cidRd L = some (c, k)) :
    Calls Tryd.prog 59 #[rdV p, .bool z, .int .u64 most] w fun e w' => e = .returned (.tuple #[.agg #[.string ⟨(L.take k).toArray⟩], .int .u64 ((x : Int) - k), .nilIface]) ∧ Rdr w' p v l (i + m + k) ∧ Keep (fun k => k = p) w w' := by
  have hpw : p < w.heap.size := by obtain ⟨r, h⟩ := hr.row; exact block_of_row h
  have hr0 := heap_alloc_new w cidZ
  have hA : Below w.heap.size w (w.alloc cidZ) := (Below.refl _ _).alloc (Nat.le_refl _) _
  have hmin : min (most : Int) 9223372036854775807 = most := by omega
  have HA := Lib.hid hA
  have he' := he.keep (S := fun _ => False) hA.keep (fun _ h => h.elim)
  have HS := Lib.hid (ldSize_ok p v l i _ (hr.keep (S := fun _ => False) hA.keep (fun _ h => h.elim)) e0 e1 _ _ _ _ he'.uv x m hd z most hxm (fun _ => by omega))
  have HE := Lib.hid he'
  have HU := Lib.hid hu
  have hL2 : L.length ≤ 33554432 := by rw [hL, List.length_take]; omega
  have hkx : k ≤ x := by have := (cidRd_take hok).1; rw [hL, List.length_take] at this; omega
  have wr : IntKind.i64.wrap (x : Int) = x := IntWalk.i64_in _ (by omega)
  have wr2 : IntKind.u64.wrap (k : Int) = k := IntWalk.u64_in _ (by omega)
  have wr3 : IntKind.u64.wrap ((x : Int) - k) = (x : Int) - k := IntWalk.u64_in _ (by omega)
  have hx0 : ((x : Int) == 0) = false := by simp; omega
  have HL := Lib.hid hL
  have HL0 := Lib.hid hL0
  have HOK := Lib.hid hok
  clear hA he he' hu hr hd hL hL0 hok
  go_enter Tryd.func59, Tryd.ntmps59
  go_wp2_with fail
  refine HS.out.mono ?_
  rintro e w1 ⟨rfl, hr1, hk⟩
  obtain ⟨hp1, hr2, hl2⟩ := lim_start hr1 x
  have hk1 : Keep (fun k => p ≤ k) w w1 := (HA.out.keep).trans (hk.mono fun _ _ h => by omega)
  obtain ⟨w2, hw2⟩ : ∃ w2, w2 = w1.alloc (.cells #[rdV p, .int .i64 x] 204) := ⟨_, rfl⟩
  have hb2 : Below w1.heap.size w1 w2 := hw2 ▸ (Below.refl _ w1).alloc (Nat.le_refl _) _
  have HLR := Lib.hid (limitReader p x w1)
  rw [← hw2] at hr2 hl2 HLR
  have hk2 : Keep (fun k => p ≤ k) w w2 := hk1.trans hb2.keep
  have he2 := HE.out.keep ((hk.mono (T := fun k => p ≤ k) fun _ _ h => by omega).trans hb2.keep) (fun _ h => h)
  have HC := Lib.hid (cidFromReader w1.heap.size p x v l L (i + m) w2 hr2 hl2 hp1 (by omega) HL.out HL0.out hL2 e0 e1 e2 e3 he2 (fun W hW => HU.out W (hk2.trans hW)))
  have hrw := hk.row hr0 (fun h => by omega)
  have HR0 := Lib.hid (row_below hb2 (block_of_row hrw) hrw)
  have hcs := block_of_row hrw
  have HK := Lib.hid (hk.trans hb2.keep)
  generalize w1.heap.size = q at *
  clear hr1 hk hk1 hk2 he2 hr2 hl2 hr0 hrw hw2 hb2
  go_wp2_with fail
  refine HLR.out.mono ?_
  rintro e w3 ⟨rfl, rfl⟩
  go_wp2_with fail
  refine HC.out.mono ?_
  rintro e w4 ⟨hsay, hk4⟩
  unfold FrSays at hsay
  rw [HOK.out] at hsay
  obtain ⟨rfl, hj⟩ := hsay
  obtain ⟨s, hs⟩ : ∃ s : ByteArray, s = ⟨(L.take k).toArray⟩ := ⟨_, rfl⟩
  rw [← hs]
  have hr4 := hk4.row HR0.out (fun h => by omega)
  obtain ⟨W3, hW3⟩ : ∃ W3, W3 = w4.alloc (.cells #[.string s] 80) := ⟨_, rfl⟩
  have hb3 : Below w4.heap.size w4 W3 := hW3 ▸ (Below.refl _ w4).alloc (Nat.le_refl _) _
  have hr3 := row_below hb3 (block_of_row hr4) hr4
  have k0 := cell_of_row' (cur := [_]) hr3 0
  have f0 := frozen_of_row' (cur := [_]) hr3 0
  have p4 := Lib.hid (Lib.heap_setCell_same (i := 0) hr3 (.string s))
  have hk5 : Keep (fun k => k = w.heap.size) w4 (W3.setCell ⟨w.heap.size, 0, none⟩ (.string s)) := Keep.setCell (S := fun k => k = w.heap.size) hb3.keep rfl _ _
  have hfin : Hid (Rdr (W3.setCell ⟨w.heap.size, 0, none⟩ (.string s)) p v l (i + m + k) ∧ Keep (fun k => k = p) w (W3.setCell ⟨w.heap.size, 0, none⟩ (.string s))) := by
    refine Lib.hid ⟨hj.keep hk5 (fun k h => by omega), ?_⟩
    exact ((((HA.out.keep (S := fun k => k = p ∨ k = q ∨ k = w.heap.size)).trans (HK.out.mono fun _ _ h => Or.inl h)).trans (hk4.mono fun _ _ h => by omega)).trans (hk5.mono fun _ _ h => Or.inr (Or.inr h))).mono (fun k hk h => by omega)
  rw [hW3] at k0 f0 hfin p4
  have k1 : (w4.alloc (.cells #[.string s] 80)).cell? ⟨w4.heap.size, 0, none⟩ = _ := cell_of_row' (cur := [_]) (heap_alloc_new w4 _) 0
  have HSS := Lib.hid hs
  clear hk5 hr3 hb3 hW3 hk4 hr4 hj HC hs
  go_wp2
  refine bodyPost_ret (results_row_tmp_tmp rfl _ _ (w.heap.size) 80 #[.string s] (0, 0) _ rfl p4.out Tryd.underlying80 rfl (by kernel_rfl)) rfl ?_
  exact ⟨by rw [← HSS.out]; rfl, hfin.out⟩
end Go.Proofs.YthfgnhgijgjggaaDoor
/- Contract: impl.SeHead. -/
namespace Go.Proofs.YthfgnhgijgjggaaDoor
open Go.RowKit

set_option maxRecDepth 100000 in
set_option maxHeartbeats 8000000 in
theorem seHead_bad (k : Nat) (s : ByteArray) (hs : s.size ≤ 2147483647) (z : Bool) (most : Nat) (w : World)
    (HN : ∀ p v w2, Rdr w2 p v s.data.toList 0 → w.heap.size < p → Below w.heap.size w w2 → Calls Tryd.prog 59 #[rdV p, .bool z, .int .u64 most] w2 (NodeBad k p v s.data.toList w2)) :
    Calls Tryd.prog 32 #[.string s, .bool z, .int .u64 most] w fun e w' => (∃ n : Int, e = .returned (.tuple #[noCid, .int .u64 0, .int .i64 n, .int .u8 k])) ∧ Below w.heap.size w w' := by
  obtain ⟨A, c, w1, hconv, hb1, hbs⟩ := conv_in' (w.alloc outZ) s
  have hA : Below w.heap.size w (w.alloc outZ) := (Below.refl _ _).alloc (Nat.le_refl _) _
  have hl : s.data.toList.length = s.size := by rw [Array.length_toList]; rfl
  obtain ⟨l, hll⟩ : ∃ l, l = s.data.toList := ⟨_, rfl⟩
  rw [← hll] at hbs hl HN
  have HNR := Lib.hid (newReader (.slice A s.size c) l w1 hbs (by omega))
  have hp : w.heap.size + 1 ≤ w1.heap.size := by have := hb1.size; simp at this; omega
  have hr0 := row_below hb1 (block_of_row (heap_alloc_new w outZ)) (heap_alloc_new w outZ)
  have HB1 := Lib.hid (below_next hA hb1)
  have HNN := Lib.hid HN
  clear hbs hl hll hb1 hA HN
  go_enter Tryd.func32, Tryd.ntmps32
  go_wp2_with fail
  refine HNR.out.mono ?_
  rintro e w2 ⟨rfl, hr, hs2, hb2⟩
  have b2 : Below w.heap.size w w2 := below_next HB1.out hb2
  have HC := Lib.hid (HNN.out _ _ w2 hr (by omega) b2)
  have hr2 := row_below hb2 (block_of_row hr0) hr0
  have B2 := Lib.hid b2
  clear hr hb2 HNR HNN b2 hr0
  generalize w1.heap.size = p at *
  go_wp2_with fail
  refine HC.out.mono ?_
  rintro e w3 ⟨us, _, rfl, ⟨⟨t, y, rfl⟩, hK⟩, ⟨j, hj⟩, hk3⟩
  have b3 : Below w.heap.size w w3 := B2.out.trans (hk3.below (fun k hk e => by omega) B2.out.size)
  have hr3 := hk3.row hr2 (fun h => by omega)
  have hbA : Below w3.heap.size w3 (w3.alloc (.cells #[.string us] 80)) := (Below.refl _ _).alloc (Nat.le_refl _) _
  obtain ⟨W3, hW3⟩ : ∃ W3, W3 = w3.alloc (.cells #[.string us] 80) := ⟨_, rfl⟩
  rw [← hW3] at hbA
  have hr4 := row_below hbA (block_of_row hr3) hr3
  have HLen := Lib.hid (rdLen p _ l j W3 (hj.keep (S := fun _ => False) hbA.keep (fun _ h => h.elim)))
  have B3 := Lib.hid (below_next b3 hbA)
  have HK := Lib.hid (fun W (hW : Below W3.heap.size W3 W) => hK W (hbA.keep.trans hW.keep))
  have HR4 := Lib.hid hr4
  rw [hW3] at HLen B3 HK HR4
  clear hW3 hr4 hr3 hbA b3 hk3 hj hK hr2 HC
  generalize l.length = N at *
  go_wp2_with fail
  refine HLen.out.mono ?_
  rintro e w4 ⟨rfl, hk4⟩
  have hb4 := hk4.below'
  have HB4 := Lib.hid (below_next B3.out hb4)
  have hr5 := row_below hb4 (block_of_row HR4.out) HR4.out
  have hO : OutVar w4 w.heap.size := ⟨hr5⟩
  obtain ⟨⟨k0, k1, k2, k3⟩, f0, f1, f2, f3⟩ := hO.cells
  have HK4 := HK.out w4 hb4
  have p4 := Lib.hid (set4 hr5 (.int .u64 0) (.int .u64 0) (.int .u64 0) (.string ⟨#[]⟩))
  have HF := Lib.hid (below_set4 HB4.out (Nat.le_refl _) (.int .u64 0) (.int .u64 0) (.int .u64 0) (.string ⟨#[]⟩))
  have HKK := Lib.hid HK4
  clear hk4 hb4 hO HK4 HK hr5 HLen
  go_wp2_with fail
  refine HKK.out.mono ?_
  rintro e w5 ⟨rfl, rfl⟩
  go_wp2
  refine bodyPost_ret (results_row_tmp3 rfl _ _ (w.heap.size) 26 #[.int .u64 0, .int .u64 0, .int .u64 0, .string ⟨#[]⟩] (0, 0) _ rfl p4.out Tryd.underlying26 rfl (by kernel_rfl)) rfl ?_
  exact ⟨⟨_, rfl⟩, HF.out⟩

set_option maxRecDepth 100000 in
set_option maxHeartbeats 8000000 in
theorem seHead_ok (s : ByteArray) (hs : s.size ≤ 2147483647) (z : Bool) (most : Nat) (w : World) (us : ByteArray) (x : CidD) (hx : CidStr us x) (X : Int) (J : Nat) (hu : CdS w) (hJ : J ≤ s.size)
    (HN : ∀ p v w2, Rdr w2 p v s.data.toList 0 → w.heap.size < p → Below w.heap.size w w2 → Calls Tryd.prog 59 #[rdV p, .bool z, .int .u64 most] w2 fun e w' => e = .returned (.tuple #[.agg #[.string us], .int .u64 X, .nilIface]) ∧ Rdr w' p v s.data.toList J ∧ Keep (fun k => k = p) w2 w') :
    Calls Tryd.prog 32 #[.string s, .bool z, .int .u64 most] w fun e w' => e = .returned (.tuple #[.agg #[.int .u64 x.ver, .int .u64 x.codec, .int .u64 x.code, .string ⟨x.dig.toArray⟩], .int .u64 X, .int .i64 J, .int .u8 0]) ∧ Below w.heap.size w w' := by
  obtain ⟨A, c, w1, hconv, hb1, hbs⟩ := conv_in' (w.alloc outZ) s
  have hA : Below w.heap.size w (w.alloc outZ) := (Below.refl _ _).alloc (Nat.le_refl _) _
  have hl : s.data.toList.length = s.size := by rw [Array.length_toList]; rfl
  obtain ⟨l, hll⟩ : ∃ l, l = s.data.toList := ⟨_, rfl⟩
  rw [← hll] at hbs hl HN
  have HNR := Lib.hid (newReader (.slice A s.size c) l w1 hbs (by omega))
  have hp : w.heap.size + 1 ≤ w1.heap.size := by have := hb1.size; simp at this; omega
  have hr0 := row_below hb1 (block_of_row (heap_alloc_new w outZ)) (heap_alloc_new w outZ)
  have HB1 := Lib.hid (below_next hA hb1)
  have HNN := Lib.hid HN
  have HU := Lib.hid hu
  have HX := Lib.hid hx
  have HL := Lib.hid hl
  clear hbs hl hll hb1 hA HN hu hx
  go_enter Tryd.func32, Tryd.ntmps32
  go_wp2_with fail
  refine HNR.out.mono ?_
  rintro e w2 ⟨rfl, hr, hs2, hb2⟩
  have b2 : Below w.heap.size w w2 := below_next HB1.out hb2
  have HC := Lib.hid (HNN.out _ _ w2 hr (by omega) b2)
  have hr2 := row_below hb2 (block_of_row hr0) hr0
  have B2 := Lib.hid b2
  clear hr hb2 HNR HNN b2 hr0
  generalize w1.heap.size = p at *
  go_wp2_with fail
  refine HC.out.mono ?_
  rintro e w3 ⟨rfl, hj, hk3⟩
  have b3 : Below w.heap.size w w3 := B2.out.trans (hk3.below (fun k hk e => by omega) B2.out.size)
  have hr3 := hk3.row hr2 (fun h => by omega)
  have hbA : Below w3.heap.size w3 (w3.alloc (.cells #[.string us] 80)) := (Below.refl _ _).alloc (Nat.le_refl _) _
  obtain ⟨W3, hW3⟩ : ∃ W3, W3 = w3.alloc (.cells #[.string us] 80) := ⟨_, rfl⟩
  rw [← hW3] at hbA
  have hr4 := row_below hbA (block_of_row hr3) hr3
  have hB3 := below_next b3 hbA
  have c0 : W3.cell? ⟨w3.heap.size, 0, none⟩ = some (.string us) := by rw [hW3]; exact cell_of_row' (cur := [_]) (heap_alloc_new w3 _) 0
  have HOut := Lib.hid (cidOut_ok us x HX.out W3 (HU.out.below hB3).toUvS)
  have HJ := Lib.hid (hj.keep (S := fun _ => False) hbA.keep (fun _ h => h.elim))
  have B3 := Lib.hid hB3
  have HR4 := Lib.hid hr4
  have HW3 := Lib.hid hW3
  rw [hW3] at HOut c0
  clear hW3 hr4 hr3 hbA b3 hk3 hj hr2 HC hB3
  go_wp2_with fail
  refine HOut.out.mono ?_
  rw [← HW3.out]
  rintro e w4 ⟨rfl, hb4⟩
  have HLen := Lib.hid (rdLen p _ l J w4 (HJ.out.below hb4))
  rw [HL.out] at HLen
  have HB4 := Lib.hid (below_next B3.out hb4)
  have HR5 := Lib.hid (row_below hb4 (block_of_row HR4.out) HR4.out)
  clear hb4 HOut HJ HR4 c0
  obtain ⟨v0, hv0⟩ : ∃ v0 : Int, v0 = x.ver := ⟨_, rfl⟩
  obtain ⟨v1, hv1⟩ : ∃ v1 : Int, v1 = x.codec := ⟨_, rfl⟩
  obtain ⟨v2, hv2⟩ : ∃ v2 : Int, v2 = x.code := ⟨_, rfl⟩
  obtain ⟨v3, hv3⟩ : ∃ v3 : ByteArray, v3 = ⟨x.dig.toArray⟩ := ⟨_, rfl⟩
  rw [← hv0, ← hv1, ← hv2, ← hv3]
  have HV0 := Lib.hid hv0
  have HV1 := Lib.hid hv1
  have HV2 := Lib.hid hv2
  have HV3 := Lib.hid hv3
  clear hv0 hv1 hv2 hv3
  go_wp2_with fail
  refine HLen.out.mono ?_
  rintro e w5 ⟨rfl, hk5⟩
  have hb5 := hk5.below'
  have hr6 := row_below hb5 (block_of_row HR5.out) HR5.out
  have hO : OutVar w5 w.heap.size := ⟨hr6⟩
  obtain ⟨⟨k0, k1, k2, k3⟩, f0, f1, f2, f3⟩ := hO.cells
  have p4 := Lib.hid (set4 hr6 (.int .u64 v0) (.int .u64 v1) (.int .u64 v2) (.string v3))
  have HF := Lib.hid (below_set4 (below_next HB4.out hb5) (Nat.le_refl _) (.int .u64 v0) (.int .u64 v1) (.int .u64 v2) (.string v3))
  clear hk5 hb5 hO hr6 HLen
  go_wp2
  refine bodyPost_ret (results_row_tmp3 rfl _ _ (w.heap.size) 26 #[.int .u64 v0, .int .u64 v1, .int .u64 v2, .string v3] (0, 0) _ rfl p4.out Tryd.underlying26 rfl (by kernel_rfl)) rfl ?_
  exact ⟨by show Ending.returned (.tuple #[.agg #[.int .u64 v0, .int .u64 v1, .int .u64 v2, .string v3], .int .u64 X, .int .i64 ((s.size : Int) - ((s.size : Int) - (J : Int))), .int .u8 0]) = _; rw [show (s.size : Int) - ((s.size : Int) - (J : Int)) = J by omega, HV0.out, HV1.out, HV2.out, HV3.out], HF.out⟩
end Go.Proofs.YthfgnhgijgjggaaDoor
