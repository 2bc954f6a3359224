/- Contracts, joined (SeG SeH SeI SeJ SeK SeL). -/
import Derived.Test.YthfgnhgijgjggaaDoorJSb8
/- Contract: cid.CidFromReader over a limited reader: the version is another one; what is behind it can't be read. -/
namespace Go.Proofs.YthfgnhgijgjggaaDoor
open Go.RowKit

set_option maxRecDepth 100000 in
set_option maxHeartbeats 8000000 in
theorem fr_badVer (q p N : Nat) (v : Value) (l L : List UInt8) (i : Nat) (w : World) (hr : Rdr w p v l i) (hl : LimAt w q p N) (hpq : p < q) (hN2 : N ≤ 9223372036854775807) (hL : L = (l.drop i).take N)
    (e0 e1 e2 e3 : Addr) (he : SeErrs p w e0 e1 e2 e3) (hu : ∀ W, Keep (fun k => p ≤ k) w W → CdS W) (x m : Nat) (hd : uvDec L = .ok x m) (h18 : x ≠ 18) (h1 : x ≠ 1) :
    Calls Tryd.prog 89 #[limV q] w fun e w' => FrBad e ∧ (∃ j, Rdr w' p v l j) ∧ Keep (fun k => k = p ∨ k = q) w w' := by
  have hf0 : FrS w (frW q w) q p v l e0 e1 e2 e3 (i + 0) (N - 0) (L.take 0) := FrS.start hr hl hpq he hu
  have HT := Lib.hid (toBuf_fr q w)
  have hmk := make64
  obtain ⟨W1, hW1⟩ : ∃ W1, W1 = frW q w := ⟨_, rfl⟩
  rw [← hW1] at hf0 HT
  have HL := Lib.hid hL
  have HB := Lib.hid (hf0.uv_ok HL.out hN2 (by omega) hd)
  have b18 : ((x : Int) == 18) = false := by simp; omega
  have b1 : ((x : Int) != 1) = true := by rw [bne_iff_ne]; omega
  clear he hu hL hr hl hW1 hf0 hd h18 h1
  generalize (x : Int) = xi at *
  go_enter Tryd.func89, Tryd.ntmps89
  go_wp2_with fail
  refine HT.out.mono ?_
  rintro e w1 ⟨rfl, rfl⟩
  go_wp2_with fail
  refine HB.out.mono ?_
  rintro e w2 ⟨rfl, hf⟩
  have HF0 := Lib.hid hf
  obtain ⟨us, n, hn, p1, p2, p3, p4, p5, p6⟩ := hf.fin
  clear hf HB HT
  go_wp2_with fail
  go_region_with (go_at_call 103; refine (errorsNew _ w2.drew).mono ?_; rintro e w9 ⟨t, pp, rfl, hb9⟩; have HF := Lib.hid (HF0.out.below (below_next (below_drewN _ _ 1) hb9)); obtain ⟨p1, p2, p3, p4, p5, p6⟩ := HF.out.fin_at hn (below_cell (below_next (below_drewN _ _ 1) hb9) p3))
  all_goals
    go_wp2
    refine bodyPost_ret (results_tmp_row_tmp rfl _ _ (w.heap.size) 80 #[.string us] (0, 0) _ rfl p6.out Tryd.underlying80 rfl (by kernel_rfl)) rfl ?_
    exact ⟨⟨_, _, _, rfl⟩, HF.out.out 0 _⟩

set_option maxRecDepth 100000 in
set_option maxHeartbeats 8000000 in
theorem fr_noCodec (q p N : Nat) (v : Value) (l L : List UInt8) (i : Nat) (w : World) (hr : Rdr w p v l i) (hl : LimAt w q p N) (hpq : p < q) (hN2 : N ≤ 9223372036854775807) (hL : L = (l.drop i).take N)
    (e0 e1 e2 e3 : Addr) (he : SeErrs p w e0 e1 e2 e3) (hu : ∀ W, Keep (fun k => p ≤ k) w W → CdS W) (m0 : Nat) (hd0 : uvDec L = .ok 1 m0) (hno : (uvDec (L.drop (0 + m0))).no) :
    Calls Tryd.prog 89 #[limV q] w fun e w' => FrBad e ∧ (∃ j, Rdr w' p v l j) ∧ Keep (fun k => k = p ∨ k = q) w w' := by
  have hf0 : FrS w (frW q w) q p v l e0 e1 e2 e3 (i + 0) (N - 0) (L.take 0) := FrS.start hr hl hpq he hu
  have HT := Lib.hid (toBuf_fr q w)
  have hmk := make64
  obtain ⟨W1, hW1⟩ : ∃ W1, W1 = frW q w := ⟨_, rfl⟩
  rw [← hW1] at hf0 HT
  have HL := Lib.hid hL
  have HB0 := Lib.hid (hf0.uv_ok HL.out hN2 (by omega) hd0)
  have n0 := (uvDec_ok hd0).2.2.1
  have HNO := Lib.hid hno
  clear he hu hL hr hl hW1 hf0 hno hd0
  go_enter Tryd.func89, Tryd.ntmps89
  go_wp2_with fail
  refine HT.out.mono ?_
  rintro e w1 ⟨rfl, rfl⟩
  go_wp2_with fail
  refine HB0.out.mono ?_
  rintro e w2 ⟨rfl, hf1⟩
  have HB1 := Lib.hid (hf1.uv_no HL.out hN2 (by omega) HNO.out)
  clear hf1 HB0
  go_wp2_with fail
  refine HB1.out.mono ?_
  rintro e w8 ⟨b, i', N', ds', rfl, hf, _⟩
  obtain ⟨us, n, hn, p1, p2, p3, p4, p5, p6⟩ := hf.fin
  have HF := Lib.hid hf
  clear hf HT HB1
  go_wp2_with fail
  go_region
  all_goals
    go_wp2
    refine bodyPost_ret (results_tmp_row_tmp rfl _ _ (w.heap.size) 80 #[.string us] (0, 0) _ rfl p6.out Tryd.underlying80 rfl (by kernel_rfl)) rfl ?_
    exact ⟨⟨_, _, _, rfl⟩, HF.out.out 1 _⟩

set_option maxRecDepth 100000 in
set_option maxHeartbeats 8000000 in
theorem fr_noCode (q p N : Nat) (v : Value) (l L : List UInt8) (i : Nat) (w : World) (hr : Rdr w p v l i) (hl : LimAt w q p N) (hpq : p < q) (hN2 : N ≤ 9223372036854775807) (hL : L = (l.drop i).take N)
    (e0 e1 e2 e3 : Addr) (he : SeErrs p w e0 e1 e2 e3) (hu : ∀ W, Keep (fun k => p ≤ k) w W → CdS W) (m0 : Nat) (hd0 : uvDec L = .ok 1 m0) (x1 m1 : Nat) (hd1 : uvDec (L.drop (0 + m0)) = .ok x1 m1) (hno : (uvDec (L.drop (0 + m0 + m1))).no) :
    Calls Tryd.prog 89 #[limV q] w fun e w' => FrBad e ∧ (∃ j, Rdr w' p v l j) ∧ Keep (fun k => k = p ∨ k = q) w w' := by
  have hf0 : FrS w (frW q w) q p v l e0 e1 e2 e3 (i + 0) (N - 0) (L.take 0) := FrS.start hr hl hpq he hu
  have HT := Lib.hid (toBuf_fr q w)
  have hmk := make64
  obtain ⟨W1, hW1⟩ : ∃ W1, W1 = frW q w := ⟨_, rfl⟩
  rw [← hW1] at hf0 HT
  have HL := Lib.hid hL
  have HB0 := Lib.hid (hf0.uv_ok HL.out hN2 (by omega) hd0)
  have n0 := (uvDec_ok hd0).2.2.1
  have n1 := (uvDec_ok hd1).2.2.1
  have HD1 := Lib.hid hd1
  have HNO := Lib.hid hno
  clear he hu hL hr hl hW1 hf0 hno hd0 hd1
  go_enter Tryd.func89, Tryd.ntmps89
  go_wp2_with fail
  refine HT.out.mono ?_
  rintro e w1 ⟨rfl, rfl⟩
  go_wp2_with fail
  refine HB0.out.mono ?_
  rintro e w2 ⟨rfl, hf1⟩
  have HB1 := Lib.hid (hf1.uv_ok HL.out hN2 (by omega) HD1.out)
  clear hf1 HB0
  go_wp2_with fail
  refine HB1.out.mono ?_
  rintro e w3 ⟨rfl, hf2⟩
  have HB2 := Lib.hid (hf2.uv_no HL.out hN2 (by omega) HNO.out)
  obtain ⟨_, n1, hn1, _, _, _, q4, q5, _⟩ := hf2.fin
  clear hf2 HB1
  go_wp2_with fail
  refine HB2.out.mono ?_
  rintro e w8 ⟨b, i', N', ds', rfl, hf, _⟩
  obtain ⟨us, n, hn, p1, p2, p3, p4, p5, p6⟩ := hf.fin
  have HF := Lib.hid hf
  clear hf HT HB2
  go_wp2_with fail
  go_region
  all_goals
    go_wp2
    refine bodyPost_ret (results_tmp_row_tmp rfl _ _ (w.heap.size) 80 #[.string us] (0, 0) _ rfl p6.out Tryd.underlying80 rfl (by kernel_rfl)) rfl ?_
    exact ⟨⟨_, _, _, rfl⟩, HF.out.out 1 _⟩

set_option maxRecDepth 100000 in
set_option maxHeartbeats 8000000 in
theorem fr_noLen (q p N : Nat) (v : Value) (l L : List UInt8) (i : Nat) (w : World) (hr : Rdr w p v l i) (hl : LimAt w q p N) (hpq : p < q) (hN2 : N ≤ 9223372036854775807) (hL : L = (l.drop i).take N)
    (e0 e1 e2 e3 : Addr) (he : SeErrs p w e0 e1 e2 e3) (hu : ∀ W, Keep (fun k => p ≤ k) w W → CdS W) (m0 : Nat) (hd0 : uvDec L = .ok 1 m0) (x1 m1 : Nat) (hd1 : uvDec (L.drop (0 + m0)) = .ok x1 m1) (x2 m2 : Nat) (hd2 : uvDec (L.drop (0 + m0 + m1)) = .ok x2 m2) (hno : (uvDec (L.drop (0 + m0 + m1 + m2))).no) :
    Calls Tryd.prog 89 #[limV q] w fun e w' => FrBad e ∧ (∃ j, Rdr w' p v l j) ∧ Keep (fun k => k = p ∨ k = q) w w' := by
  have hf0 : FrS w (frW q w) q p v l e0 e1 e2 e3 (i + 0) (N - 0) (L.take 0) := FrS.start hr hl hpq he hu
  have HT := Lib.hid (toBuf_fr q w)
  have hmk := make64
  obtain ⟨W1, hW1⟩ : ∃ W1, W1 = frW q w := ⟨_, rfl⟩
  rw [← hW1] at hf0 HT
  have HL := Lib.hid hL
  have HB0 := Lib.hid (hf0.uv_ok HL.out hN2 (by omega) hd0)
  have n0 := (uvDec_ok hd0).2.2.1
  have n1 := (uvDec_ok hd1).2.2.1
  have n2 := (uvDec_ok hd2).2.2.1
  have HD1 := Lib.hid hd1
  have HD2 := Lib.hid hd2
  have HNO := Lib.hid hno
  clear he hu hL hr hl hW1 hf0 hno hd0 hd1 hd2
  go_enter Tryd.func89, Tryd.ntmps89
  go_wp2_with fail
  refine HT.out.mono ?_
  rintro e w1 ⟨rfl, rfl⟩
  go_wp2_with fail
  refine HB0.out.mono ?_
  rintro e w2 ⟨rfl, hf1⟩
  have HB1 := Lib.hid (hf1.uv_ok HL.out hN2 (by omega) HD1.out)
  clear hf1 HB0
  go_wp2_with fail
  refine HB1.out.mono ?_
  rintro e w3 ⟨rfl, hf2⟩
  have HB2 := Lib.hid (hf2.uv_ok HL.out hN2 (by omega) HD2.out)
  obtain ⟨_, n1, hn1, _, _, _, q4, q5, _⟩ := hf2.fin
  clear hf2 HB1
  go_wp2_with fail
  refine HB2.out.mono ?_
  rintro e w4 ⟨rfl, hf3⟩
  have HB3 := Lib.hid (hf3.uv_no HL.out hN2 (by omega) HNO.out)
  clear hf3 HB2
  go_wp2_with fail
  refine HB3.out.mono ?_
  rintro e w8 ⟨b, i', N', ds', rfl, hf, _⟩
  obtain ⟨us, n, hn, p1, p2, p3, p4, p5, p6⟩ := hf.fin
  have HF := Lib.hid hf
  clear hf HT HB3
  go_wp2_with fail
  go_region
  all_goals
    go_wp2
    refine bodyPost_ret (results_tmp_row_tmp rfl _ _ (w.heap.size) 80 #[.string us] (0, 0) _ rfl p6.out Tryd.underlying80 rfl (by kernel_rfl)) rfl ?_
    exact ⟨⟨_, _, _, rfl⟩, HF.out.out 1 _⟩
end Go.Proofs.YthfgnhgijgjggaaDoor
/- cid.CidFromReader: the world behind the varints: the row that is read into. -/
namespace Go.Proofs.YthfgnhgijgjggaaDoor
open Go.RowKit

section
variable {P : Program}
/-- 's[a:b]' in a row. -/
theorem run_lh {t e : TypeId} (ht : P.underlying t = some (.slice e)) (hsz : (P.info? e).map (fun i => (i.zero, i.size, i.bytes)) = some (some (.int .u8 0), 1, 1)) (g n c lo hi : Nat) (h1 : lo ≤ hi) (h2 : hi ≤ c) (h3 : lo < c) (x y : Int) (hx : x = lo) (hy : y = hi) (W : World) :
    (Instr.slice t (.slice (some ⟨g, 0, none⟩) n c) (some (.int .i64 x)) (some (.int .i64 y)) none).run P W = .ok (.slice (some ⟨g, lo, none⟩) (hi - lo) (c - lo)) W := by
  have ht' : P.underlying t = some (.slice (P.elem t)) := by simp [Program.elem, ht]
  have he : P.elem t = e := by simp [Program.elem, ht]
  subst hx hy
  rw [run_slice_lh W t _ _ _ ht' .i64 .i64 _ _ (by omega) (by omega) (by omega), he, run_size hsz, Int.toNat_natCast, Int.toNat_natCast]
  simp only [Result.andThen, sliced]
  rw [if_neg (by omega)]
  by_cases h0 : lo = 0
  · subst h0; simp [Addr.add]
  · simp [Addr.add, h0]
/-- 's[:b]' in a row. -/
theorem run_h {t e : TypeId} (ht : P.underlying t = some (.slice e)) (hsz : (P.info? e).map (fun i => (i.zero, i.size, i.bytes)) = some (some (.int .u8 0), 1, 1)) (g n c hi : Nat) (h2 : hi ≤ c) (y : Int) (hy : y = hi) (W : World) :
    (Instr.slice t (.slice (some ⟨g, 0, none⟩) n c) none (some (.int .i64 y)) none).run P W = .ok (.slice (some ⟨g, 0, none⟩) hi c) W := by
  have ht' : P.underlying t = some (.slice (P.elem t)) := by simp [Program.elem, ht]
  have he : P.elem t = e := by simp [Program.elem, ht]
  subst hy
  rw [run_slice_h W t _ _ _ ht' .i64 _ (by omega) (by omega), he, run_size hsz, Int.toNat_natCast]
  simp only [Result.andThen, sliced]
  by_cases h0 : c = 0
  · rw [if_pos h0]; simp
  · rw [if_neg h0]; simp [Addr.add]
end

theorem bufSetC {w : World} {r : Nat} {x y z : Value} {t : TypeId} (h : w.heap[r]? = some (.cells #[x, y, z] t (0, 0))) (u : Value) : (w.setCell ⟨r, 2, none⟩ u).heap[r]? = some (.cells #[x, y, u] t (0, 0)) := by
  have := Lib.heap_setCell_same (i := 2) h u
  simpa using this

/-- The world: what was read lies in row h, of C cells, to which the reader's slice of n bytes points. -/
structure FrB (w W : World) (q p : Nat) (v : Value) (l : List UInt8) (e0 e1 e2 e3 : Addr) (j M h C n : Nat) (ds : List UInt8) : Prop where
  rdr : Rdr W p v l j
  lim : LimAt W q p M
  pq : p < q
  old : q < w.heap.size
  hh : w.heap.size < h ∧ h ≠ w.heap.size + 2
  buf : W.heap[w.heap.size + 2]? = some (.cells #[.nilIface, limV q, .slice (some ⟨h, 0, none⟩) n C] 208 (0, 0))
  row : ∃ cur : List Value, W.heap[h]? = some (.cells cur.toArray 5 (0, 0)) ∧ cur.length = C ∧ cur.take ds.length = Lib.byteCells ds
  crow : W.heap[w.heap.size]? = some (.cells #[.string ⟨#[]⟩] 80 (0, 0))
  keep : Keep (fun k => k = p ∨ k = q) w W
  errs : SeErrs p W e0 e1 e2 e3
  all : ∀ W, Keep (fun k => p ≤ k) w W → CdS W
section
variable {w W W2 : World} {q p : Nat} {v : Value} {l L : List UInt8} {e0 e1 e2 e3 : Addr} {i j M N h C n a : Nat} {ds ds' : List UInt8}
theorem FrS.toB (hf : FrS w W q p v l e0 e1 e2 e3 i N ds) : FrB w W q p v l e0 e1 e2 e3 i N (w.heap.size + 1) 64 ds.length ds :=
  ⟨hf.tow.rdr, hf.tow.lim, hf.tow.pq, hf.old, ⟨by omega, by omega⟩, hf.tow.buf, hf.tow.row, hf.row, hf.keep, hf.errs, hf.all⟩
theorem FrB.cds (hf : FrB w W q p v l e0 e1 e2 e3 j M h C n ds) : CdS W := hf.all W (hf.keep.mono fun k _ hk => by have := hf.pq; omega)
theorem FrB.below (hf : FrB w W q p v l e0 e1 e2 e3 j M h C n ds) (hb : Below W.heap.size W W2) : FrB w W2 q p v l e0 e1 e2 e3 j M h C n ds := by
  have hk : Keep (fun _ => False) W W2 := hb.keep
  obtain ⟨cur, h1, h2⟩ := hf.row
  exact ⟨hf.rdr.keep hk (fun _ h => h.elim), hk.row hf.lim (fun h => h), hf.pq, hf.old, hf.hh, hk.row hf.buf (fun h => h), ⟨cur, hk.row h1 (fun h => h), h2⟩, hk.row hf.crow (fun h => h), hf.keep.trans2 hk (fun _ _ h => h.elim), hf.errs.keep hk (fun _ h => h.elim), hf.all⟩
theorem FrB.fin_at (hf : FrB w W q p v l e0 e1 e2 e3 j M h C n ds) {us : ByteArray} (hus : W.cell? ⟨1, 0, none⟩ = some (.string us)) : (W.cell? ⟨w.heap.size, 0, none⟩ = some (.string ⟨#[]⟩)) ∧ (W.frozen? ⟨w.heap.size, 0, none⟩ = false) ∧ (W.cell? ⟨1, 0, none⟩ = some (.string us)) ∧ (w.heap.size + 2 < W.heap.size) ∧
      (W.cell? ⟨w.heap.size + 2, 2, none⟩ = some (.slice (some ⟨h, 0, none⟩) n C)) ∧
      Hid ((W.setCell ⟨w.heap.size, 0, none⟩ (.string us)).heap[w.heap.size]? = some (.cells #[.string us] 80 (0, 0))) :=
  ⟨cell_of_row' (cur := [_]) hf.crow 0, frozen_of_row' (cur := [_]) hf.crow 0, hus, block_of_row hf.buf, cell_of_row' (cur := [_, _, _]) hf.buf 2, Lib.hid (Lib.heap_setCell_same (i := 0) hf.crow _)⟩
theorem FrB.fin (hf : FrB w W q p v l e0 e1 e2 e3 j M h C n ds) : ∃ us : ByteArray, (W.cell? ⟨w.heap.size, 0, none⟩ = some (.string ⟨#[]⟩)) ∧ (W.frozen? ⟨w.heap.size, 0, none⟩ = false) ∧ (W.cell? ⟨1, 0, none⟩ = some (.string us)) ∧ (w.heap.size + 2 < W.heap.size) ∧
      (W.cell? ⟨w.heap.size + 2, 2, none⟩ = some (.slice (some ⟨h, 0, none⟩) n C)) ∧
      Hid ((W.setCell ⟨w.heap.size, 0, none⟩ (.string us)).heap[w.heap.size]? = some (.cells #[.string us] 80 (0, 0))) := by
  obtain ⟨us, hus⟩ := hf.cds.undef
  exact ⟨us, hf.fin_at hus⟩
theorem FrB.bufc (hf : FrB w W q p v l e0 e1 e2 e3 j M h C n ds) : (w.heap.size + 2 < W.heap.size) ∧ (W.cell? ⟨w.heap.size + 2, 2, none⟩ = some (.slice (some ⟨h, 0, none⟩) n C)) ∧ (W.frozen? ⟨w.heap.size + 2, 2, none⟩ = false) :=
  ⟨block_of_row hf.buf, cell_of_row' (cur := [_, _, _]) hf.buf 2, frozen_of_row' (cur := [_, _, _]) hf.buf 2⟩
theorem FrB.out (hf : FrB w W q p v l e0 e1 e2 e3 j M h C n ds) (m : Nat) (u : Value) :
    (∃ j, Rdr ((W.drewN m).setCell ⟨w.heap.size, 0, none⟩ u) p v l j) ∧ Keep (fun k => k = p ∨ k = q) w ((W.drewN m).setCell ⟨w.heap.size, 0, none⟩ u) :=
  fr_out (by have := hf.old; have := hf.pq; omega) ⟨⟨_, hf.rdr⟩, hf.keep⟩ m u
theorem FrB.outAt (hf : FrB w W q p v l e0 e1 e2 e3 j M h C n ds) (m : Nat) (u : Value) :
    Rdr ((W.drewN m).setCell ⟨w.heap.size, 0, none⟩ u) p v l j ∧ Keep (fun k => k = p ∨ k = q) w ((W.drewN m).setCell ⟨w.heap.size, 0, none⟩ u) := by
  have h1 : Keep (fun k => k = w.heap.size) W ((W.drewN m).setCell ⟨w.heap.size, 0, none⟩ u) := Keep.setCell (S := fun k => k = w.heap.size) (keep_drewN _ _ _) rfl _ _
  have := hf.old; have := hf.pq
  exact ⟨hf.rdr.keep h1 (fun k hk => by omega), hf.keep.trans2 h1 (fun k hk hk2 => by omega)⟩
/-- The slice is laid anew. -/
theorem FrB.store (hf : FrB w W q p v l e0 e1 e2 e3 j M h C n ds) (n' : Nat) : FrB w (W.setCell ⟨w.heap.size + 2, 2, none⟩ (.slice (some ⟨h, 0, none⟩) n' C)) q p v l e0 e1 e2 e3 j M h C n' ds := by
  have hk : Keep (fun k => k = w.heap.size + 2) W (W.setCell ⟨w.heap.size + 2, 2, none⟩ (.slice (some ⟨h, 0, none⟩) n' C)) := Keep.setCell (S := fun k => k = w.heap.size + 2) (Keep.refl _ _) rfl _ _
  obtain ⟨cur, h1, h2⟩ := hf.row
  have h3 := hf.hh; have h4 := hf.old; have h5 := hf.pq
  exact ⟨hf.rdr.keep hk (fun k h => by omega), hk.row hf.lim (fun h => by omega), hf.pq, hf.old, hf.hh, bufSetC hf.buf _, ⟨cur, hk.row h1 (fun h => by omega), h2⟩, hk.row hf.crow (fun h => by omega), hf.keep.trans2 hk (fun _ _ h => by omega), hf.errs.keep hk (fun k h => by omega), hf.all⟩
/-- .. in a new row. -/
theorem FrB.grown (hf : FrB w W q p v l e0 e1 e2 e3 j M h C n ds) (n' C' : Nat) (cur : List Value) (hW2 : W2 = W.drew.alloc (.cells cur.toArray 5)) (hc : cur.length = C') (ht : cur.take ds.length = Lib.byteCells ds) :
    FrB w (W2.setCell ⟨w.heap.size + 2, 2, none⟩ (.slice (some ⟨W.heap.size, 0, none⟩) n' C')) q p v l e0 e1 e2 e3 j M W.heap.size C' n' ds := by
  subst hW2
  have hb : Below W.heap.size W (W.drew.alloc (.cells cur.toArray 5)) := ((Below.refl _ W).drew).alloc (Nat.le_refl _) _
  have h6 := block_of_row hf.buf
  have hk : Keep (fun k => k = w.heap.size + 2) W ((W.drew.alloc (.cells cur.toArray 5)).setCell ⟨w.heap.size + 2, 2, none⟩ (.slice (some ⟨W.heap.size, 0, none⟩) n' C')) := Keep.setCell (S := fun k => k = w.heap.size + 2) hb.keep rfl _ _
  have h3 := hf.hh; have h4 := hf.old; have h5 := hf.pq
  refine ⟨hf.rdr.keep hk (fun k h => by omega), hk.row hf.lim (fun h => by omega), hf.pq, hf.old, ⟨by omega, by omega⟩, bufSetC (row_below hb h6 hf.buf) _, ⟨cur, ?_, hc, ht⟩, hk.row hf.crow (fun h => by omega), hf.keep.trans2 hk (fun _ _ h => by omega), hf.errs.keep hk (fun k h => by omega), hf.all⟩
  exact (Below.heap_setCell _ _ _ _ (by show W.heap.size ≠ w.heap.size + 2; omega)).trans (heap_alloc_new W.drew _)
theorem FrB.bs (hf : FrB w W q p v l e0 e1 e2 e3 j M h C n ds) : BS W (.slice (some ⟨h, 0, none⟩) ds.length C) ds := by
  obtain ⟨cur, h1, h2, h3⟩ := hf.row
  have hl : ds.length ≤ C := by
    have := congrArg List.length h3
    rw [List.length_take, Lib.byteCells_length] at this
    omega
  refine BS.of_cells hl fun k hk => ?_
  rw [Nat.zero_add, cell_of_row' h1]
  have h4 : (cur.take ds.length)[k]? = (Lib.byteCells ds)[k]? := by rw [h3]
  rw [List.getElem?_take, if_pos hk] at h4
  rw [h4]
  simp [Lib.byteCells, List.getElem?_map, List.getElem?_eq_getElem hk]
theorem splice_more (cur : List Value) (ds es : List UInt8) (h : ds.length + es.length ≤ cur.length) (ht : cur.take ds.length = Lib.byteCells ds) : (splice cur ds.length (Lib.byteCells es)).length = cur.length ∧ (splice cur ds.length (Lib.byteCells es)).take (ds ++ es).length = Lib.byteCells (ds ++ es) := by
  unfold splice
  refine ⟨by simp [Lib.byteCells_length]; omega, ?_⟩
  rw [ht, Lib.byteCells_append, List.length_append, ← List.append_assoc, List.take_left' (by simp [Lib.byteCells_length])]
/-- The bytes are there. -/
theorem FrB.full_ok {x : Nat} (hf : FrB w W q p v l e0 e1 e2 e3 (i + a) (N - a) h C n (L.take a)) (hL : L = (l.drop i).take N) (hN : N ≤ 9223372036854775807) (hC : C ≤ 9223372036854775807) (hx : 0 < x) (hax : a + x ≤ L.length) (hfit : a + x ≤ C) :
    Calls Tryd.prog 87 #[limV q, .slice (some ⟨h, a, none⟩) x (C - a)] W fun e w' => e = .returned (.tuple #[.int .i64 x, .nilIface]) ∧ FrB w w' q p v l e0 e1 e2 e3 (i + (a + x)) (N - (a + x)) h C n (L.take (a + x)) := by
  obtain ⟨cur, h1, h2, h3⟩ := hf.row
  have hh := hf.hh; have hq := hf.old; have hp := hf.pq
  have hLl : L.length = min N (l.length - i) := by rw [hL, List.length_take, List.length_drop]
  have hla : (L.take a).length = a := by rw [List.length_take]; omega
  have hdx : (L.drop a).take x = (l.drop (i + a)).take x := by rw [stL hL a, List.take_take, Nat.min_eq_left (by omega)]
  have hxl : ((L.drop a).take x).length = x := by rw [List.length_take, List.length_drop]; omega
  rw [hla] at h3
  refine (limFull_of q x (C - a) _ W _ _ _ (limAtLeast_ok q p h a x (C - a) (N - a) v l (i + a) cur _ W hf.rdr hf.lim (by omega) hp (by omega) (by omega) h1 hx (by omega) (by omega) (by omega) (by omega) (by omega))).mono fun e w' ⟨hr, h4, h5, h6, h7⟩ => ?_
  have hs := splice_more cur (L.take a) ((L.drop a).take x) (by rw [hla, hxl]; omega) (by rw [hla]; exact h3)
  rw [hla, ← List.take_add, hdx, h2] at hs
  refine ⟨hr, ⟨by rw [← Nat.add_assoc]; exact h4, by rw [← Nat.sub_sub]; exact h5, hp, hq, hh, h7.row hf.buf (fun h => by omega), ⟨_, h6.out, hs⟩, h7.row hf.crow (fun h => by omega), hf.keep.trans2 h7 (fun k hk h => by omega), hf.errs.keep h7 (fun k h => by omega), hf.all⟩⟩
/-- What is left of it where they are not. -/
structure FrE (w W : World) (q p : Nat) (v : Value) (l : List UInt8) (h C n : Nat) : Prop where
  rdr : ∃ j, Rdr W p v l j
  old : p < w.heap.size
  buf : W.heap[w.heap.size + 2]? = some (.cells #[.nilIface, limV q, .slice (some ⟨h, 0, none⟩) n C] 208 (0, 0))
  crow : W.heap[w.heap.size]? = some (.cells #[.string ⟨#[]⟩] 80 (0, 0))
  keep : Keep (fun k => k = p ∨ k = q) w W
  cds : CdS W
theorem FrE.fin (hf : FrE w W q p v l h C n) : ∃ us : ByteArray, (W.cell? ⟨w.heap.size, 0, none⟩ = some (.string ⟨#[]⟩)) ∧ (W.frozen? ⟨w.heap.size, 0, none⟩ = false) ∧ (W.cell? ⟨1, 0, none⟩ = some (.string us)) ∧ (w.heap.size + 2 < W.heap.size) ∧
      (W.cell? ⟨w.heap.size + 2, 2, none⟩ = some (.slice (some ⟨h, 0, none⟩) n C)) ∧
      Hid ((W.setCell ⟨w.heap.size, 0, none⟩ (.string us)).heap[w.heap.size]? = some (.cells #[.string us] 80 (0, 0))) := by
  obtain ⟨us, hus⟩ := hf.cds.undef
  exact ⟨us, cell_of_row' (cur := [_]) hf.crow 0, frozen_of_row' (cur := [_]) hf.crow 0, hus, block_of_row hf.buf, cell_of_row' (cur := [_, _, _]) hf.buf 2, Lib.hid (Lib.heap_setCell_same (i := 0) hf.crow _)⟩
theorem FrE.out (hf : FrE w W q p v l h C n) (m : Nat) (u : Value) :
    (∃ j, Rdr ((W.drewN m).setCell ⟨w.heap.size, 0, none⟩ u) p v l j) ∧ Keep (fun k => k = p ∨ k = q) w ((W.drewN m).setCell ⟨w.heap.size, 0, none⟩ u) :=
  fr_out hf.old ⟨hf.rdr, hf.keep⟩ m u
/-- They are not. -/
theorem FrB.full_no {x : Nat} (hf : FrB w W q p v l e0 e1 e2 e3 (i + a) (N - a) h C n (L.take a)) (hL : L = (l.drop i).take N) (hN : N ≤ 9223372036854775807) (hC : C ≤ 9223372036854775807) (hax : L.length < a + x) (hfit : a + x ≤ C) (ha : a ≤ L.length) :
    Calls Tryd.prog 87 #[limV q, .slice (some ⟨h, a, none⟩) x (C - a)] W fun e w' => ∃ (k : Nat) (b : Addr), e = .returned (.tuple #[.int .i64 (k : Int), errV b]) ∧ k < x ∧ FrE w w' q p v l h C n := by
  obtain ⟨cur, h1, h2, h3⟩ := hf.row
  have hh := hf.hh; have hq := hf.old; have hp := hf.pq
  have hLl : L.length = min N (l.length - i) := by rw [hL, List.length_take, List.length_drop]
  refine (limFull_short q p h a x (C - a) (N - a) v l (i + a) cur _ W hf.rdr hf.lim (by omega) hp (by omega) (by omega) h1 (by omega) (by omega) (by omega) (by omega) e0 e1 hf.errs.eof hf.errs.unex).mono fun e w' ⟨hr, h4, h7⟩ => ?_
  have hk : Keep (fun k => k = p ∨ k = q) w w' := hf.keep.trans2 h7 (fun k hk h => by omega)
  obtain ⟨b, hb⟩ : ∃ b, (if min (N - a) (l.length - (i + a)) = 0 then errV e0 else errV e1) = errV b := by
    by_cases h0 : min (N - a) (l.length - (i + a)) = 0
    · rw [if_pos h0]; exact ⟨_, rfl⟩
    · rw [if_neg h0]; exact ⟨_, rfl⟩
  rw [hb] at hr
  exact ⟨_, b, hr, by omega, ⟨h4, by omega, h7.row hf.buf (fun h => by omega), h7.row hf.crow (fun h => by omega), hk, hf.all _ (hk.mono fun _ _ h => by omega)⟩⟩
end
end Go.Proofs.YthfgnhgijgjggaaDoor
/- Contract: cid.CidFromReader over a limited reader: version 0. -/
namespace Go.Proofs.YthfgnhgijgjggaaDoor
open Go.RowKit

set_option maxRecDepth 100000 in
set_option maxHeartbeats 2000000 in
theorem mhCast_no (A : Option Addr) (n c : Nat) (l : List UInt8) (w : World) (hs : BS w (.slice A n c) l) (hm : l.length ≤ 2147483647) (hu : MhS w) (hd : ∀ code d, mhRd l ≠ some (n, code, d)) :
    Calls Tryd.prog 104 #[.slice A n c] w fun e w' => (∃ x t y, e = .returned (.tuple #[x, .iface t y])) ∧ Below w.heap.size w w' := by
  have HC := Lib.hid (Decode_bad A n c l w hs hm hu hd)
  clear hs hu hd hm
  go_enter Tryd.func104, Tryd.ntmps104
  go_wp2_with fail
  refine HC.out.mono ?_
  rintro e w2 ⟨⟨t, y, rfl⟩, hb2⟩
  go_wp2
  go_ret2
  exact ⟨⟨_, _, _, rfl⟩, hb2.alloc hb2.size _⟩

theorem ver18 {L : List UInt8} {m : Nat} (h : uvDec L = .ok 18 m) : m = 1 ∧ L[0]? = some 18 := by
  obtain ⟨h1, h2, _, _, h5⟩ := uvDec_ok h
  rw [uvarint18] at h5
  have h6 := congrArg List.length h5
  rw [List.length_take] at h6
  simp only [List.length_singleton] at h6
  have hm : m = 1 := by omega
  subst hm
  refine ⟨rfl, ?_⟩
  have h7 : (L.take 1)[0]? = some 18 := by rw [h5]; rfl
  rw [List.getElem?_take] at h7
  simpa using h7
theorem zero_mh {L : List UInt8} (hz : cidZero L) (h34 : 34 ≤ L.length) : ∃ d, mhRd (L.take 34) = some (34, 18, d) := by
  have hrd : cidRd L = some (⟨0, 112, 18, (L.drop 2).take 32⟩, 34) := by unfold cidRd; rw [if_pos hz, if_neg (by omega)]
  obtain ⟨_, ht, _, _⟩ := cidRd_take hrd
  refine ⟨(L.drop 2).take 32, ?_⟩
  rw [ht]
  have h32 : ((L.drop 2).take 32).length = 32 := by rw [List.length_take, List.length_drop]; omega
  have := mhRd_enc 18 ((L.drop 2).take 32) [] (by omega) (by omega)
  rw [List.append_nil, show (mhEnc 18 ((L.drop 2).take 32)).length = 34 by rw [mhEnc_18 _ h32]; simp [h32]] at this
  exact this
/-- 34 bytes are a multihash of code 18 only if the second one is 32. -/
theorem not_zero_mh {L : List UInt8} (hz : ¬ cidZero L) (h34 : 34 ≤ L.length) (h0 : L[0]? = some 18) : ∀ code d, mhRd (L.take 34) ≠ some (34, code, d) := by
  intro code d h
  obtain ⟨_, ht, hd, hc⟩ := mhRd_take h
  have h1 : L.take 34 = mhEnc code d := by rw [← ht, List.take_take]; rfl
  have h2 : (L.take 34).length = 34 := by rw [List.length_take]; omega
  -- the code
  have hcode : code = 18 := by
    have e1 : uvDec (L.take 34) = .ok code (Lib.uvarint code).length := by
      rw [h1]; exact uvDec_back code hc _
    have e2 : uvDec (18 :: (L.drop 1).take 33) = .ok 18 1 := by
      have := uvDec_back 18 (by omega) ((L.drop 1).take 33)
      rw [uvarint18] at this
      exact this
    have e3 : L.take 34 = 18 :: (L.drop 1).take 33 := by
      have e4 : L = 18 :: L.drop 1 := by
        cases L with
        | nil => simp at h0
        | cons b r => simp at h0; rw [h0]; rfl
      rw [e4]; rfl
    rw [e3, e2] at e1
    injection e1 with e1
    exact e1.symm
  subst hcode
  unfold mhEnc at h1
  rw [uvarint18] at h1
  have h3 : 1 + ((Lib.uvarint d.length).length + d.length) = 34 := by
    have := congrArg List.length h1
    rw [h2] at this
    simp at this
    omega
  by_cases hs : d.length < 128
  · rw [Lib.uvarint_small hs] at h1 h3
    simp only [List.length_singleton] at h3
    have hdl : d.length = 32 := by omega
    refine hz ⟨by omega, h0, ?_⟩
    have h4 : (L.take 34)[1]? = some 32 := by rw [h1, hdl]; rfl
    rw [List.getElem?_take] at h4
    simpa using h4
  · omega

set_option maxRecDepth 100000 in
set_option maxHeartbeats 8000000 in
theorem fr_zeroShort (q p N : Nat) (v : Value) (l L : List UInt8) (i : Nat) (w : World) (hr : Rdr w p v l i) (hl : LimAt w q p N) (hpq : p < q) (hN2 : N ≤ 9223372036854775807) (hL : L = (l.drop i).take N)
    (e0 e1 e2 e3 : Addr) (he : SeErrs p w e0 e1 e2 e3) (hu : ∀ W, Keep (fun k => p ≤ k) w W → CdS W) (m : Nat) (hd : uvDec L = .ok 18 m) (h34 : L.length < 34) :
    Calls Tryd.prog 89 #[limV q] w fun e w' => FrBad e ∧ (∃ j, Rdr w' p v l j) ∧ Keep (fun k => k = p ∨ k = q) w w' := by
  have hf0 : FrS w (frW q w) q p v l e0 e1 e2 e3 (i + 0) (N - 0) (L.take 0) := FrS.start hr hl hpq he hu
  have HT := Lib.hid (toBuf_fr q w)
  have hmk := make64
  obtain ⟨W1, hW1⟩ : ∃ W1, W1 = frW q w := ⟨_, rfl⟩
  rw [← hW1] at hf0 HT
  have HL := Lib.hid hL
  obtain ⟨rfl, hL0⟩ := ver18 hd
  have hLp := (uvDec_ok hd).2.1
  have HB0 := Lib.hid (hf0.uv_ok HL.out hN2 (by omega) hd)
  have hl1 : (L.take (0 + 1)).length = 1 := by rw [List.length_take]; omega
  have hsl : ∀ W, (Instr.slice 43 (.slice (some ⟨w.heap.size + 1, 0, none⟩) 1 64) (some (.int .i64 1)) (some (.int .i64 34)) none).run Tryd.prog W = .ok (.slice (some ⟨w.heap.size + 1, 1, none⟩) 33 63) W := fun W => run_lh Tryd.underlying43 info_u8 (w.heap.size + 1) 1 64 1 34 (by omega) (by omega) (by omega) 1 34 rfl rfl W
  have hsl2 : ∀ W, (Instr.slice 43 (.slice (some ⟨w.heap.size + 1, 0, none⟩) 1 64) none (some (.int .i64 34)) none).run Tryd.prog W = .ok (.slice (some ⟨w.heap.size + 1, 0, none⟩) 34 64) W := fun W => run_h Tryd.underlying43 info_u8 (w.heap.size + 1) 1 64 34 (by omega) 34 rfl W
  have H34 := Lib.hid h34
  have HLP := Lib.hid hLp
  have HL1 := Lib.hid hl1
  clear he hu hL hr hl hW1 hf0 hd hL0 hLp h34 hl1
  go_enter Tryd.func89, Tryd.ntmps89
  go_wp2_with fail
  refine HT.out.mono ?_
  rintro e w1 ⟨rfl, rfl⟩
  go_wp2_with fail
  refine HB0.out.mono ?_
  rintro e w2 ⟨rfl, hf⟩
  have hB := hf.toB
  rw [HL1.out] at hB
  obtain ⟨q4, q5, q6⟩ := hB.bufc
  have HF := Lib.hid (hB.full_no (a := 1) (x := 33) HL.out hN2 (by omega) (by have := H34.out; omega) (by omega) HLP.out)
  clear hf hB HB0
  go_wp2_with fail
  refine HF.out.mono ?_
  rintro e w3 ⟨k, b, rfl, hk, hE⟩
  obtain ⟨us, p1, p2, p3, p4, p5, p6⟩ := hE.fin
  have HE := Lib.hid hE
  clear hE HF q4 q5 q6
  go_wp2_with fail
  go_region
  all_goals
    go_wp2
    refine bodyPost_ret (results_tmp_row_tmp rfl _ _ (w.heap.size) 80 #[.string us] (0, 0) _ rfl p6.out Tryd.underlying80 rfl (by kernel_rfl)) rfl ?_
    exact ⟨⟨_, _, _, rfl⟩, HE.out.out 1 _⟩

set_option maxRecDepth 100000 in
set_option maxHeartbeats 8000000 in
theorem fr_zeroBad (q p N : Nat) (v : Value) (l L : List UInt8) (i : Nat) (w : World) (hr : Rdr w p v l i) (hl : LimAt w q p N) (hpq : p < q) (hN2 : N ≤ 9223372036854775807) (hL : L = (l.drop i).take N)
    (e0 e1 e2 e3 : Addr) (he : SeErrs p w e0 e1 e2 e3) (hu : ∀ W, Keep (fun k => p ≤ k) w W → CdS W) (m : Nat) (hd : uvDec L = .ok 18 m) (h34 : 34 ≤ L.length) (hz : ¬ cidZero L) :
    Calls Tryd.prog 89 #[limV q] w fun e w' => FrBad e ∧ (∃ j, Rdr w' p v l j) ∧ Keep (fun k => k = p ∨ k = q) w w' := by
  have hf0 : FrS w (frW q w) q p v l e0 e1 e2 e3 (i + 0) (N - 0) (L.take 0) := FrS.start hr hl hpq he hu
  have HT := Lib.hid (toBuf_fr q w)
  have hmk := make64
  obtain ⟨W1, hW1⟩ : ∃ W1, W1 = frW q w := ⟨_, rfl⟩
  rw [← hW1] at hf0 HT
  have HL := Lib.hid hL
  obtain ⟨rfl, hL0⟩ := ver18 hd
  have hLp := (uvDec_ok hd).2.1
  have HB0 := Lib.hid (hf0.uv_ok HL.out hN2 (by omega) hd)
  have hl1 : (L.take (0 + 1)).length = 1 := by rw [List.length_take]; omega
  have hsl : ∀ W, (Instr.slice 43 (.slice (some ⟨w.heap.size + 1, 0, none⟩) 1 64) (some (.int .i64 1)) (some (.int .i64 34)) none).run Tryd.prog W = .ok (.slice (some ⟨w.heap.size + 1, 1, none⟩) 33 63) W := fun W => run_lh Tryd.underlying43 info_u8 (w.heap.size + 1) 1 64 1 34 (by omega) (by omega) (by omega) 1 34 rfl rfl W
  have hsl2 : ∀ W, (Instr.slice 43 (.slice (some ⟨w.heap.size + 1, 0, none⟩) 1 64) none (some (.int .i64 34)) none).run Tryd.prog W = .ok (.slice (some ⟨w.heap.size + 1, 0, none⟩) 34 64) W := fun W => run_h Tryd.underlying43 info_u8 (w.heap.size + 1) 1 64 34 (by omega) 34 rfl W
  have H34 := Lib.hid h34
  have HL1 := Lib.hid hl1
  have HMH := Lib.hid (not_zero_mh hz h34 hL0)
  clear he hu hL hr hl hW1 hf0 hd hL0 hLp h34 hl1 hz
  go_enter Tryd.func89, Tryd.ntmps89
  go_wp2_with fail
  refine HT.out.mono ?_
  rintro e w1 ⟨rfl, rfl⟩
  go_wp2_with fail
  refine HB0.out.mono ?_
  rintro e w2 ⟨rfl, hf⟩
  have hB := hf.toB
  rw [HL1.out] at hB
  obtain ⟨q4, q5, q6⟩ := hB.bufc
  have HF := Lib.hid (hB.full_ok (a := 1) (x := 33) HL.out hN2 (by omega) (by omega) (by have := H34.out; omega) (by omega))
  clear hf hB HB0
  go_wp2_with fail
  refine HF.out.mono ?_
  rintro e w3 ⟨rfl, hB3⟩
  obtain ⟨r4, r5, r6⟩ := hB3.bufc
  have hS := hB3.store 34
  have hlen : (L.take (1 + 33)).length = 34 := by rw [List.length_take]; have := H34.out; omega
  have hbs := hS.bs
  rw [hlen] at hbs
  obtain ⟨W3, hW3⟩ : ∃ W3, W3 = w3.setCell ⟨w.heap.size + 2, 2, none⟩ (.slice (some ⟨w.heap.size + 1, 0, none⟩) 34 64) := ⟨_, rfl⟩
  have HS := Lib.hid hS
  have HBS := Lib.hid hbs
  have HC := Lib.hid (mhCast_no _ 34 64 _ _ hbs (by omega) hS.cds.toMhS HMH.out)
  clear hbs hS hB3 HF q4 q5 q6 hlen hW3
  go_wp2_with fail
  refine HC.out.mono ?_
  rintro e w4 ⟨⟨x, t, y, rfl⟩, hb4⟩
  have hF := HS.out.below hb4
  obtain ⟨us, p1, p2, p3, p4, p5, p6⟩ := hF.fin
  have HFF := Lib.hid hF
  clear hF hb4 r4 r5 r6 HC
  go_wp2_with fail
  go_region
  all_goals
    go_wp2
    refine bodyPost_ret (results_tmp_row_tmp rfl _ _ (w.heap.size) 80 #[.string us] (0, 0) _ rfl p6.out Tryd.underlying80 rfl (by kernel_rfl)) rfl ?_
    exact ⟨⟨_, _, _, rfl⟩, HFF.out.out 1 _⟩

set_option maxRecDepth 100000 in
set_option maxHeartbeats 8000000 in
theorem fr_zeroOk (q p N : Nat) (v : Value) (l L : List UInt8) (i : Nat) (w : World) (hr : Rdr w p v l i) (hl : LimAt w q p N) (hpq : p < q) (hN2 : N ≤ 9223372036854775807) (hL : L = (l.drop i).take N)
    (e0 e1 e2 e3 : Addr) (he : SeErrs p w e0 e1 e2 e3) (hu : ∀ W, Keep (fun k => p ≤ k) w W → CdS W) (m : Nat) (hd : uvDec L = .ok 18 m) (h34 : 34 ≤ L.length) (hz : cidZero L) :
    Calls Tryd.prog 89 #[limV q] w fun e w' => e = .returned (.tuple #[.int .i64 34, .agg #[.string ⟨(L.take 34).toArray⟩], .nilIface]) ∧ Rdr w' p v l (i + 34) ∧ Keep (fun k => k = p ∨ k = q) w w' := by
  have hf0 : FrS w (frW q w) q p v l e0 e1 e2 e3 (i + 0) (N - 0) (L.take 0) := FrS.start hr hl hpq he hu
  have HT := Lib.hid (toBuf_fr q w)
  have hmk := make64
  obtain ⟨W1, hW1⟩ : ∃ W1, W1 = frW q w := ⟨_, rfl⟩
  rw [← hW1] at hf0 HT
  have HL := Lib.hid hL
  obtain ⟨rfl, hL0⟩ := ver18 hd
  have hLp := (uvDec_ok hd).2.1
  have HB0 := Lib.hid (hf0.uv_ok HL.out hN2 (by omega) hd)
  have hl1 : (L.take (0 + 1)).length = 1 := by rw [List.length_take]; omega
  have hsl : ∀ W, (Instr.slice 43 (.slice (some ⟨w.heap.size + 1, 0, none⟩) 1 64) (some (.int .i64 1)) (some (.int .i64 34)) none).run Tryd.prog W = .ok (.slice (some ⟨w.heap.size + 1, 1, none⟩) 33 63) W := fun W => run_lh Tryd.underlying43 info_u8 (w.heap.size + 1) 1 64 1 34 (by omega) (by omega) (by omega) 1 34 rfl rfl W
  have hsl2 : ∀ W, (Instr.slice 43 (.slice (some ⟨w.heap.size + 1, 0, none⟩) 1 64) none (some (.int .i64 34)) none).run Tryd.prog W = .ok (.slice (some ⟨w.heap.size + 1, 0, none⟩) 34 64) W := fun W => run_h Tryd.underlying43 info_u8 (w.heap.size + 1) 1 64 34 (by omega) 34 rfl W
  have H34 := Lib.hid h34
  have HL1 := Lib.hid hl1
  have HMH := Lib.hid (zero_mh hz h34)
  clear he hu hL hr hl hW1 hf0 hd hL0 hLp h34 hl1 hz
  go_enter Tryd.func89, Tryd.ntmps89
  go_wp2_with fail
  refine HT.out.mono ?_
  rintro e w1 ⟨rfl, rfl⟩
  go_wp2_with fail
  refine HB0.out.mono ?_
  rintro e w2 ⟨rfl, hf⟩
  have hB := hf.toB
  rw [HL1.out] at hB
  obtain ⟨q4, q5, q6⟩ := hB.bufc
  have HF := Lib.hid (hB.full_ok (a := 1) (x := 33) HL.out hN2 (by omega) (by omega) (by have := H34.out; omega) (by omega))
  clear hf hB HB0
  go_wp2_with fail
  refine HF.out.mono ?_
  rintro e w3 ⟨rfl, hB3⟩
  obtain ⟨r4, r5, r6⟩ := hB3.bufc
  have hS := hB3.store 34
  have hlen : (L.take (1 + 33)).length = 34 := by rw [List.length_take]; have := H34.out; omega
  have hbs := hS.bs
  rw [hlen] at hbs
  obtain ⟨W3, hW3⟩ : ∃ W3, W3 = w3.setCell ⟨w.heap.size + 2, 2, none⟩ (.slice (some ⟨w.heap.size + 1, 0, none⟩) 34 64) := ⟨_, rfl⟩
  have HS := Lib.hid hS
  have HBS := Lib.hid hbs
  obtain ⟨d, hmd⟩ := HMH.out
  have HC := Lib.hid (mhCast_ok _ 34 64 _ _ hbs (by omega) hS.cds.toUvS 18 d hmd)
  clear hbs hS hB3 HF q4 q5 q6 hlen hW3 hmd
  go_wp2_with fail
  refine HC.out.mono ?_
  rintro e w4 ⟨rfl, hb4⟩
  have hF := HS.out.below hb4
  obtain ⟨us, p1, p2, p3, p4, p5, _⟩ := hF.fin
  have p6 := Lib.hid (Lib.heap_setCell_same (i := 0) hF.crow (.string ⟨(L.take 34).toArray⟩))
  have hcv : (convert 88 9 (.slice (some ⟨w.heap.size + 1, 0, none⟩) 34 64)).run Tryd.prog w4.drew = .ok (.string ⟨(L.take 34).toArray⟩) w4.drew := (((HBS.out.below hb4).drewN 1).str (dst := 9) Tryd.underlying88 Tryd.underlying5 Tryd.underlying9)
  have HFF := Lib.hid hF
  clear hF hb4 r4 r5 r6 HC
  go_wp2_with fail
  go_region
  all_goals
    go_wp2
    refine bodyPost_ret (results_tmp_row_tmp rfl _ _ (w.heap.size) 80 #[.string ⟨(L.take 34).toArray⟩] (0, 0) _ rfl p6.out Tryd.underlying80 rfl (by kernel_rfl)) rfl ?_
    exact ⟨rfl, HFF.out.outAt 1 _⟩
end Go.Proofs.YthfgnhgijgjggaaDoor
/- Contract: cid.CidFromReader over a limited reader: version 1: a digest that fits the first row. -/
namespace Go.Proofs.YthfgnhgijgjggaaDoor
open Go.RowKit

section
variable {w W : World} {q p : Nat} {v : Value} {l L : List UInt8} {e0 e1 e2 e3 : Addr} {i N h C n a : Nat}
theorem FrB.full {x : Nat} (hf : FrB w W q p v l e0 e1 e2 e3 (i + a) (N - a) h C n (L.take a)) (hL : L = (l.drop i).take N) (hN : N ≤ 9223372036854775807) (hC : C ≤ 9223372036854775807) (hax : a + x ≤ L.length) (hfit : a + x ≤ C) :
    Calls Tryd.prog 87 #[limV q, .slice (some ⟨h, a, none⟩) x (C - a)] W fun e w' => e = .returned (.tuple #[.int .i64 x, .nilIface]) ∧ FrB w w' q p v l e0 e1 e2 e3 (i + (a + x)) (N - (a + x)) h C n (L.take (a + x)) := by
  by_cases hx : 0 < x
  · exact hf.full_ok hL hN hC hx hax hfit
  · have hx0 : x = 0 := by omega
    subst hx0
    exact (limFull_of q 0 (C - a) _ W _ _ _ (limAtLeast_zero q (C - a) _ W)).mono fun e w' ⟨h1, h2⟩ => ⟨h1, by subst h2; exact hf⟩
end

theorem uvDec_pre {l l' : List UInt8} {x m : Nat} (h : uvDec l = .ok x m) (ht : l'.take m = l.take m) : uvDec l' = .ok x m := by
  obtain ⟨h1, h2, _, _, h5⟩ := uvDec_ok h
  have hx := uvDec_lt63 h
  have e : l' = Lib.uvarint x ++ l'.drop m := by rw [← h5, ← ht, List.take_append_drop]
  have hl : (Lib.uvarint x).length = m := by rw [← h5, List.length_take]; omega
  rw [e, uvDec_back x hx, hl]
/-- The multihash that lies in what was read. -/
theorem mh_in {L : List UInt8} {s m2 m3 x2 x : Nat} (hd2 : uvDec (L.drop s) = .ok x2 m2) (hd3 : uvDec (L.drop (s + m2)) = .ok x m3) (hx : x ≤ 2147483647) (hl : s + m2 + m3 + x ≤ L.length) :
    mhRd ((L.take (s + m2 + m3 + x)).drop s) = some (m2 + m3 + x, x2, ((L.drop (s + m2 + m3)).take x)) := by
  obtain ⟨h1, h2, _⟩ := uvDec_ok hd2
  obtain ⟨h3, h4, _⟩ := uvDec_ok hd3
  have e0 : (L.take (s + m2 + m3 + x)).drop s = (L.drop s).take (m2 + m3 + x) := by rw [List.drop_take]; congr 1; omega
  have e1 : uvDec ((L.drop s).take (m2 + m3 + x)) = .ok x2 m2 := uvDec_pre hd2 (by rw [List.take_take, Nat.min_eq_left (by omega)])
  have e2 : ((L.drop s).take (m2 + m3 + x)).drop m2 = (L.drop (s + m2)).take (m3 + x) := by rw [List.drop_take, List.drop_drop]; congr 1; omega
  have e3 : uvDec ((L.drop (s + m2)).take (m3 + x)) = .ok x m3 := uvDec_pre hd3 (by rw [List.take_take, Nat.min_eq_left (by omega)])
  have e4 : ((L.drop (s + m2)).take (m3 + x)).drop m3 = (L.drop (s + m2 + m3)).take x := by rw [List.drop_take, List.drop_drop]; congr 1; omega
  rw [e0]
  unfold mhRd
  rw [if_neg (by rw [List.length_take, List.length_drop]; omega), e1]
  dsimp only
  rw [e2, e3]
  dsimp only
  rw [e4, if_neg (by rw [List.length_take, List.length_drop]; omega), List.take_take, Nat.min_self]

set_option maxRecDepth 100000 in
set_option maxHeartbeats 8000000 in
theorem fr_oneBig (q p N : Nat) (v : Value) (l L : List UInt8) (i : Nat) (w : World) (hr : Rdr w p v l i) (hl : LimAt w q p N) (hpq : p < q) (hN2 : N ≤ 9223372036854775807) (hL : L = (l.drop i).take N)
    (e0 e1 e2 e3 : Addr) (he : SeErrs p w e0 e1 e2 e3) (hu : ∀ W, Keep (fun k => p ≤ k) w W → CdS W) (m0 x1 m1 x2 m2 x m3 : Nat) (hd0 : uvDec L = .ok 1 m0) (hd1 : uvDec (L.drop (0 + m0)) = .ok x1 m1) (hd2 : uvDec (L.drop (0 + m0 + m1)) = .ok x2 m2) (hd3 : uvDec (L.drop (0 + m0 + m1 + m2)) = .ok x m3) (hx : 33554432 < x) :
    Calls Tryd.prog 89 #[limV q] w fun e w' => FrBad e ∧ (∃ j, Rdr w' p v l j) ∧ Keep (fun k => k = p ∨ k = q) w w' := by
  have hf0 : FrS w (frW q w) q p v l e0 e1 e2 e3 (i + 0) (N - 0) (L.take 0) := FrS.start hr hl hpq he hu
  have HT := Lib.hid (toBuf_fr q w)
  have hmk := make64
  obtain ⟨W1, hW1⟩ : ∃ W1, W1 = frW q w := ⟨_, rfl⟩
  rw [← hW1] at hf0 HT
  have HL := Lib.hid hL
  have HB0 := Lib.hid (hf0.uv_ok HL.out hN2 (by omega) hd0)
  obtain ⟨h01, h02, h03, -⟩ := uvDec_ok hd0
  obtain ⟨h11, h12, h13, -⟩ := uvDec_ok hd1
  obtain ⟨h21, h22, h23, -⟩ := uvDec_ok hd2
  obtain ⟨h31, h32, h33, -⟩ := uvDec_ok hd3
  rw [List.length_drop] at h12 h22 h32
  have HD1 := Lib.hid hd1
  have HD2 := Lib.hid hd2
  have HD3 := Lib.hid hd3
  obtain ⟨s, hs⟩ : ∃ s, s = 0 + m0 + m1 := ⟨_, rfl⟩
  obtain ⟨A, hA⟩ : ∃ A, A = 0 + m0 + m1 + m2 + m3 := ⟨_, rfl⟩
  have hA36 : A ≤ 36 := by omega
  have hAL : A ≤ L.length := by omega
  have hsA : s + 2 ≤ A := by omega
  have hs1 : s ≤ L.length := by omega
  have HSS := Lib.hid hs
  have HAS : Hid (s + m2 + m3 = A) := Lib.hid (by omega)
  have HAA := Lib.hid hA
  have hns : (33554432 : Int) < x := by omega
  clear he hu hL hr hl hW1 hf0 hd0 hd1 hd2 hd3 h01 h11 h21 h31 h02 h12 h22 h32 hA hs
  go_enter Tryd.func89, Tryd.ntmps89
  go_wp2_with fail
  refine HT.out.mono ?_
  rintro e w1 ⟨rfl, rfl⟩
  go_wp2_with fail
  refine HB0.out.mono ?_
  rintro e w2 ⟨rfl, hf1⟩
  have HB1 := Lib.hid (hf1.uv_ok HL.out hN2 (by omega) HD1.out)
  clear hf1 HB0
  go_wp2_with fail
  refine HB1.out.mono ?_
  rintro e w3 ⟨rfl, hf2⟩
  rw [← HSS.out] at hf2
  obtain ⟨y4, y5, y6⟩ := hf2.toB.bufc
  rw [show (L.take s).length = s by rw [List.length_take]; omega] at y5
  have HB2 := Lib.hid (hf2.uv_ok HL.out hN2 (by omega) (by rw [HSS.out]; exact HD2.out))
  clear hf2 HB1
  go_wp2_with fail
  refine HB2.out.mono ?_
  rintro e w4 ⟨rfl, hf3⟩
  have HB3 := Lib.hid (hf3.uv_ok HL.out hN2 (by omega) (by rw [HSS.out]; exact HD3.out))
  clear hf3 HB2 y4 y5 y6
  go_wp2_with fail
  refine HB3.out.mono ?_
  rintro e w5 ⟨rfl, hf4⟩
  rw [HAS.out] at hf4
  have hB := hf4.toB
  rw [show (L.take A).length = A by rw [List.length_take]; omega] at hB
  obtain ⟨q4, q5, q6⟩ := hB.bufc
  obtain ⟨us, n, hn, p1, p2, p3, p4, p5, p6⟩ := hf4.fin
  have HF0 := Lib.hid hf4
  clear hf4 hB HB3 q4 q5 q6
  go_wp2_with fail
  go_region_with (go_at_call 103; refine (errorsNew _ w5.drew).mono ?_; rintro e w9 ⟨t, pp, rfl, hb9⟩; have HF := Lib.hid (HF0.out.below (below_next (below_drewN _ _ 1) hb9)); obtain ⟨p1, p2, p3, p4, p5, p6⟩ := HF.out.fin_at hn (below_cell (below_next (below_drewN _ _ 1) hb9) p3))
  all_goals
    go_wp2
    refine bodyPost_ret (results_tmp_row_tmp rfl _ _ (w.heap.size) 80 #[.string us] (0, 0) _ rfl p6.out Tryd.underlying80 rfl (by kernel_rfl)) rfl ?_
    exact ⟨⟨_, _, _, rfl⟩, HF.out.out 0 _⟩

end Go.Proofs.YthfgnhgijgjggaaDoor
/- Contract: cid.CidFromReader over a limited reader: version 1: a digest that is cut. -/
namespace Go.Proofs.YthfgnhgijgjggaaDoor
open Go.RowKit

set_option maxRecDepth 100000 in
set_option maxHeartbeats 8000000 in
theorem fr_oneShort (q p N : Nat) (v : Value) (l L : List UInt8) (i : Nat) (w : World) (hr : Rdr w p v l i) (hl : LimAt w q p N) (hpq : p < q) (hN2 : N ≤ 9223372036854775807) (hL : L = (l.drop i).take N)
    (e0 e1 e2 e3 : Addr) (he : SeErrs p w e0 e1 e2 e3) (hu : ∀ W, Keep (fun k => p ≤ k) w W → CdS W) (m0 x1 m1 x2 m2 x m3 : Nat) (hd0 : uvDec L = .ok 1 m0) (hd1 : uvDec (L.drop (0 + m0)) = .ok x1 m1) (hd2 : uvDec (L.drop (0 + m0 + m1)) = .ok x2 m2) (hd3 : uvDec (L.drop (0 + m0 + m1 + m2)) = .ok x m3) (hx : 0 + m0 + m1 + m2 + m3 + x ≤ 64) (hlt : L.length < 0 + m0 + m1 + m2 + m3 + x) :
    Calls Tryd.prog 89 #[limV q] w fun e w' => FrBad e ∧ (∃ j, Rdr w' p v l j) ∧ Keep (fun k => k = p ∨ k = q) w w' := by
  have hf0 : FrS w (frW q w) q p v l e0 e1 e2 e3 (i + 0) (N - 0) (L.take 0) := FrS.start hr hl hpq he hu
  have HT := Lib.hid (toBuf_fr q w)
  have hmk := make64
  obtain ⟨W1, hW1⟩ : ∃ W1, W1 = frW q w := ⟨_, rfl⟩
  rw [← hW1] at hf0 HT
  have HL := Lib.hid hL
  have HB0 := Lib.hid (hf0.uv_ok HL.out hN2 (by omega) hd0)
  obtain ⟨h01, h02, h03, -⟩ := uvDec_ok hd0
  obtain ⟨h11, h12, h13, -⟩ := uvDec_ok hd1
  obtain ⟨h21, h22, h23, -⟩ := uvDec_ok hd2
  obtain ⟨h31, h32, h33, -⟩ := uvDec_ok hd3
  rw [List.length_drop] at h12 h22 h32
  have HD1 := Lib.hid hd1
  have HD2 := Lib.hid hd2
  have HD3 := Lib.hid hd3
  obtain ⟨s, hs⟩ : ∃ s, s = 0 + m0 + m1 := ⟨_, rfl⟩
  obtain ⟨A, hA⟩ : ∃ A, A = 0 + m0 + m1 + m2 + m3 := ⟨_, rfl⟩
  have hA36 : A ≤ 36 := by omega
  have hAL : A ≤ L.length := by omega
  have hsA : s + 2 ≤ A := by omega
  have hs1 : s ≤ L.length := by omega
  have HSS := Lib.hid hs
  have HAS : Hid (s + m2 + m3 = A) := Lib.hid (by omega)
  have HAA := Lib.hid hA
  rw [← hA] at hx hlt
  have wr1 : IntKind.i64.wrap (x : Int) = x := IntWalk.i64_in _ (by omega)
  have wr2 : IntKind.i64.wrap ((A : Int) + x) = (A : Int) + x := IntWalk.i64_in _ (by omega)
  have hns : ¬ (33554432 : Int) < x := by omega
  have hn64 : ¬ (64 : Int) < (A : Int) + x := by omega
  have hsl : ∀ W, (Instr.slice 43 (.slice (some ⟨w.heap.size + 1, 0, none⟩) A 64) none (some (.int .i64 ((A : Int) + x))) none).run Tryd.prog W = .ok (.slice (some ⟨w.heap.size + 1, 0, none⟩) (A + x) 64) W := fun W => run_h Tryd.underlying43 info_u8 (w.heap.size + 1) A 64 (A + x) (by omega) _ (by omega) W
  have hsl2 : ∀ W, (Instr.slice 43 (.slice (some ⟨w.heap.size + 1, 0, none⟩) (A + x) 64) (some (.int .i64 A)) (some (.int .i64 ((A : Int) + x))) none).run Tryd.prog W = .ok (.slice (some ⟨w.heap.size + 1, A, none⟩) x (64 - A)) W := fun W => by
    have := run_lh (P := Tryd.prog) Tryd.underlying43 info_u8 (w.heap.size + 1) (A + x) 64 A (A + x) (by omega) (by omega) (by omega) A ((A : Int) + x) rfl (by omega) W
    rw [Nat.add_sub_cancel_left] at this
    exact this
  have HLT := Lib.hid hlt
  clear he hu hL hr hl hW1 hf0 hd0 hd1 hd2 hd3 h01 h11 h21 h31 h02 h12 h22 h32 hA hs hlt
  go_enter Tryd.func89, Tryd.ntmps89
  go_wp2_with fail
  refine HT.out.mono ?_
  rintro e w1 ⟨rfl, rfl⟩
  go_wp2_with fail
  refine HB0.out.mono ?_
  rintro e w2 ⟨rfl, hf1⟩
  have HB1 := Lib.hid (hf1.uv_ok HL.out hN2 (by omega) HD1.out)
  clear hf1 HB0
  go_wp2_with fail
  refine HB1.out.mono ?_
  rintro e w3 ⟨rfl, hf2⟩
  rw [← HSS.out] at hf2
  obtain ⟨y4, y5, y6⟩ := hf2.toB.bufc
  rw [show (L.take s).length = s by rw [List.length_take]; omega] at y5
  have HB2 := Lib.hid (hf2.uv_ok HL.out hN2 (by omega) (by rw [HSS.out]; exact HD2.out))
  clear hf2 HB1
  go_wp2_with fail
  refine HB2.out.mono ?_
  rintro e w4 ⟨rfl, hf3⟩
  have HB3 := Lib.hid (hf3.uv_ok HL.out hN2 (by omega) (by rw [HSS.out]; exact HD3.out))
  clear hf3 HB2 y4 y5 y6
  go_wp2_with fail
  refine HB3.out.mono ?_
  rintro e w5 ⟨rfl, hf4⟩
  rw [HAS.out] at hf4
  have hB := hf4.toB
  rw [show (L.take A).length = A by rw [List.length_take]; omega] at hB
  obtain ⟨q4, q5, q6⟩ := hB.bufc
  have HS := Lib.hid (hB.store (A + x))
  have HF := Lib.hid (HS.out.full_no (a := A) (x := x) HL.out hN2 (by omega) HLT.out (by omega) hAL)
  clear hf4 hB HB3
  go_wp2_with fail
  refine HF.out.mono ?_
  rintro e w6 ⟨k, b, rfl, hk, hE⟩
  obtain ⟨us, p1, p2, p3, p4, p5, p6⟩ := hE.fin
  have HE := Lib.hid hE
  clear hE HF q4 q5 q6
  go_wp2_with fail
  go_region
  all_goals
    go_wp2
    refine bodyPost_ret (results_tmp_row_tmp rfl _ _ (w.heap.size) 80 #[.string us] (0, 0) _ rfl p6.out Tryd.underlying80 rfl (by kernel_rfl)) rfl ?_
    exact ⟨⟨_, _, _, rfl⟩, HE.out.out 1 _⟩

end Go.Proofs.YthfgnhgijgjggaaDoor
/- Contract: cid.CidFromReader over a limited reader: version 1: a digest that fits the first row. -/
namespace Go.Proofs.YthfgnhgijgjggaaDoor
open Go.RowKit

set_option maxRecDepth 100000 in
set_option maxHeartbeats 8000000 in
theorem fr_oneOk (q p N : Nat) (v : Value) (l L : List UInt8) (i : Nat) (w : World) (hr : Rdr w p v l i) (hl : LimAt w q p N) (hpq : p < q) (hN2 : N ≤ 9223372036854775807) (hL : L = (l.drop i).take N)
    (e0 e1 e2 e3 : Addr) (he : SeErrs p w e0 e1 e2 e3) (hu : ∀ W, Keep (fun k => p ≤ k) w W → CdS W) (m0 x1 m1 x2 m2 x m3 : Nat) (hd0 : uvDec L = .ok 1 m0) (hd1 : uvDec (L.drop (0 + m0)) = .ok x1 m1) (hd2 : uvDec (L.drop (0 + m0 + m1)) = .ok x2 m2) (hd3 : uvDec (L.drop (0 + m0 + m1 + m2)) = .ok x m3) (hx : 0 + m0 + m1 + m2 + m3 + x ≤ 64) (hle : 0 + m0 + m1 + m2 + m3 + x ≤ L.length) :
    Calls Tryd.prog 89 #[limV q] w fun e w' => e = .returned (.tuple #[.int .i64 ((0 + m0 + m1 + m2 + m3 + x : Nat) : Int), .agg #[.string ⟨(L.take (0 + m0 + m1 + m2 + m3 + x)).toArray⟩], .nilIface]) ∧ Rdr w' p v l (i + (0 + m0 + m1 + m2 + m3 + x)) ∧ Keep (fun k => k = p ∨ k = q) w w' := by
  have hf0 : FrS w (frW q w) q p v l e0 e1 e2 e3 (i + 0) (N - 0) (L.take 0) := FrS.start hr hl hpq he hu
  have HT := Lib.hid (toBuf_fr q w)
  have hmk := make64
  obtain ⟨W1, hW1⟩ : ∃ W1, W1 = frW q w := ⟨_, rfl⟩
  rw [← hW1] at hf0 HT
  have HL := Lib.hid hL
  have HB0 := Lib.hid (hf0.uv_ok HL.out hN2 (by omega) hd0)
  obtain ⟨h01, h02, h03, -⟩ := uvDec_ok hd0
  obtain ⟨h11, h12, h13, -⟩ := uvDec_ok hd1
  obtain ⟨h21, h22, h23, -⟩ := uvDec_ok hd2
  obtain ⟨h31, h32, h33, -⟩ := uvDec_ok hd3
  rw [List.length_drop] at h12 h22 h32
  have HD1 := Lib.hid hd1
  have HD2 := Lib.hid hd2
  have HD3 := Lib.hid hd3
  obtain ⟨s, hs⟩ : ∃ s, s = 0 + m0 + m1 := ⟨_, rfl⟩
  obtain ⟨A, hA⟩ : ∃ A, A = 0 + m0 + m1 + m2 + m3 := ⟨_, rfl⟩
  have hA36 : A ≤ 36 := by omega
  have hAL : A ≤ L.length := by omega
  have hsA : s + 2 ≤ A := by omega
  have hs1 : s ≤ L.length := by omega
  have HSS := Lib.hid hs
  have HAS : Hid (s + m2 + m3 = A) := Lib.hid (by omega)
  have HAA := Lib.hid hA
  rw [← hA] at hx hle ⊢
  have wr1 : IntKind.i64.wrap (x : Int) = x := IntWalk.i64_in _ (by omega)
  have wr2 : IntKind.i64.wrap ((A : Int) + x) = (A : Int) + x := IntWalk.i64_in _ (by omega)
  have hns : ¬ (33554432 : Int) < x := by omega
  have hn64 : ¬ (64 : Int) < (A : Int) + x := by omega
  have hsl : ∀ W, (Instr.slice 43 (.slice (some ⟨w.heap.size + 1, 0, none⟩) A 64) none (some (.int .i64 ((A : Int) + x))) none).run Tryd.prog W = .ok (.slice (some ⟨w.heap.size + 1, 0, none⟩) (A + x) 64) W := fun W => run_h Tryd.underlying43 info_u8 (w.heap.size + 1) A 64 (A + x) (by omega) _ (by omega) W
  have hsl2 : ∀ W, (Instr.slice 43 (.slice (some ⟨w.heap.size + 1, 0, none⟩) (A + x) 64) (some (.int .i64 A)) (some (.int .i64 ((A : Int) + x))) none).run Tryd.prog W = .ok (.slice (some ⟨w.heap.size + 1, A, none⟩) x (64 - A)) W := fun W => by
    have := run_lh (P := Tryd.prog) Tryd.underlying43 info_u8 (w.heap.size + 1) (A + x) 64 A (A + x) (by omega) (by omega) (by omega) A ((A : Int) + x) rfl (by omega) W
    rw [Nat.add_sub_cancel_left] at this
    exact this
  have hsl3 : ∀ W, (Instr.slice 43 (.slice (some ⟨w.heap.size + 1, 0, none⟩) (A + x) 64) (some (.int .i64 s)) none none).run Tryd.prog W = .ok (.slice (some ⟨w.heap.size + 1, s, none⟩) (A + x - s) (64 - s)) W := fun W => by
    have := run_from (P := Tryd.prog) Tryd.underlying43 info_u8 (some ⟨w.heap.size + 1, 0, none⟩) (A + x) 64 s (by omega) W
    rw [cutA_own _ _ _ _ (by omega), Nat.zero_add] at this
    exact this
  have HMH := Lib.hid (mh_in (s := s) (L := L) (by rw [hs]; exact hd2) (by rw [hs]; exact hd3) (by omega) (by omega))
  rw [show s + m2 + m3 + x = A + x by omega] at HMH
  have HLE := Lib.hid hle
  clear he hu hL hr hl hW1 hf0 hd0 hd1 hd2 hd3 h01 h11 h21 h31 h02 h12 h22 h32 hA hs hle
  go_enter Tryd.func89, Tryd.ntmps89
  go_wp2_with fail
  refine HT.out.mono ?_
  rintro e w1 ⟨rfl, rfl⟩
  go_wp2_with fail
  refine HB0.out.mono ?_
  rintro e w2 ⟨rfl, hf1⟩
  have HB1 := Lib.hid (hf1.uv_ok HL.out hN2 (by omega) HD1.out)
  clear hf1 HB0
  go_wp2_with fail
  refine HB1.out.mono ?_
  rintro e w3 ⟨rfl, hf2⟩
  rw [← HSS.out] at hf2
  obtain ⟨y4, y5, y6⟩ := hf2.toB.bufc
  rw [show (L.take s).length = s by rw [List.length_take]; omega] at y5
  have HB2 := Lib.hid (hf2.uv_ok HL.out hN2 (by omega) (by rw [HSS.out]; exact HD2.out))
  clear hf2 HB1
  go_wp2_with fail
  refine HB2.out.mono ?_
  rintro e w4 ⟨rfl, hf3⟩
  have HB3 := Lib.hid (hf3.uv_ok HL.out hN2 (by omega) (by rw [HSS.out]; exact HD3.out))
  clear hf3 HB2 y4 y5 y6
  go_wp2_with fail
  refine HB3.out.mono ?_
  rintro e w5 ⟨rfl, hf4⟩
  rw [HAS.out] at hf4
  have hB := hf4.toB
  rw [show (L.take A).length = A by rw [List.length_take]; omega] at hB
  obtain ⟨q4, q5, q6⟩ := hB.bufc
  have HS := Lib.hid (hB.store (A + x))
  have HF := Lib.hid (HS.out.full (a := A) (x := x) HL.out hN2 (by omega) HLE.out (by omega))
  clear hf4 hB HB3
  go_wp2_with fail
  refine HF.out.mono ?_
  rintro e w6 ⟨rfl, hB6⟩
  obtain ⟨r4, r5, r6⟩ := hB6.bufc
  have hlen : (L.take (A + x)).length = A + x := by rw [List.length_take]; have := HLE.out; omega
  have hbs := hB6.bs
  rw [hlen] at hbs
  have hbs2 := (hbs.from_ (P := Tryd.prog) Tryd.underlying43 info_u8 s (by omega)).2
  rw [cutA_own _ _ _ _ (by omega), Nat.zero_add] at hbs2
  have HC := Lib.hid (MHFrom_ok _ (A + x - s) (64 - s) _ w6 hbs2 (by rw [List.length_drop, hlen]; omega) hB6.cds.toUvS _ _ _ HMH.out (by have := HAS.out; omega)).2
  have HB6 := Lib.hid hB6
  have HBS := Lib.hid hbs
  clear hbs hbs2 hB6 HF q4 q5 q6 hlen
  go_wp2_with fail
  refine HC.out.mono ?_
  rintro e w7 ⟨rfl, hb7⟩
  have hF := HB6.out.below hb7
  obtain ⟨us, p1, p2, p3, p4, p5, _⟩ := hF.fin
  have p6 := Lib.hid (Lib.heap_setCell_same (i := 0) hF.crow (.string ⟨(L.take (A + x)).toArray⟩))
  have hcv : (convert 43 9 (.slice (some ⟨w.heap.size + 1, 0, none⟩) (A + x) 64)).run Tryd.prog w7.drew = .ok (.string ⟨(L.take (A + x)).toArray⟩) w7.drew := (((HBS.out.below hb7).drewN 1).str (dst := 9) Tryd.underlying43 Tryd.underlying5 Tryd.underlying9)
  have HFF := Lib.hid hF
  clear hF hb7 r4 r5 r6 HC
  go_wp2_with fail
  go_region
  all_goals
    go_wp2
    refine bodyPost_ret (results_tmp_row_tmp rfl _ _ (w.heap.size) 80 #[.string ⟨(L.take (A + x)).toArray⟩] (0, 0) _ rfl p6.out Tryd.underlying80 rfl (by kernel_rfl)) rfl ?_
    exact ⟨rfl, HFF.out.outAt 1 _⟩
end Go.Proofs.YthfgnhgijgjggaaDoor
