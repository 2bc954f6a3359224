/- Contracts, joined (RaB CaG HbA CiA CiB Vars Sents). -/
import Derived.Test.YtglkonccinpdnaaGreatDoorJCi1
import Derived.Test.YtglkonccinpdnaaGreatDoorJCi7
import Derived.Test.YtglkonccinpdnaaGreatDoorJCi8
import Derived.Lib.QuietBelow
import Derived.Outline
import Derived.Test.YtglkonccinpdnaaGreatDoorProg
import Derived.Stop.LaidErr
import Derived.KernelRfl
/- Contract: io.ReadAll over a reader at places: all that stands from where it is. -/
namespace Go.Proofs.YtglkonccinpdnaaGreatDoor
open Go.RowKit

theorem info_u8' : ∃ i, Tryz.prog.info? 5 = some i ∧ i.zero = some (.int .u8 0) ∧ i.size = 1 ∧ i.bytes = 1 := by
  obtain ⟨i, hi, h2⟩ := Option.map_eq_some_iff.1 info_u8
  simp only [Prod.mk.injEq] at h2
  exact ⟨i, hi, h2.1, h2.2.1, h2.2.2⟩
/-- append([]byte(nil), make([]byte, n)...): a new row of zeros. -/
theorem zeros_run (w : World) (n : Nat) (h0 : 0 < n) (hn : n ≤ 281474976710656) :
    ∃ (C : Nat) (cs : List Value), n ≤ C ∧ C ≤ 9223372036854775807 ∧ cs.length = C ∧ ∀ ty : TypeId, (Builtin.append_ #[58, 3] ty #[.slice none 0 0, .int .i64 n]).run Tryz.prog w = .ok (.slice (some ⟨w.heap.size, 0, none⟩) n C) (w.drew.alloc (.cells cs.toArray 5)) := by
  obtain ⟨i, hi, hz, hsz, hby⟩ := info_u8'
  have h := fun ty : TypeId => Lib.run_append_nil_zeros (P := Tryz.prog) w 58 3 ty 5 i (.int .u8 0) .i64 .i64 Tryz.underlying58 Tryz.underlying3 hi hz n h0 (by omega) (by omega) (by rw [hby]; omega)
  have hge := grownCap_ge w n 0 5
  have hle := grownCap_le_maxLen w n 0 5 (by unfold maxLen; omega)
  generalize grownCap w n 0 5 = C at h hge hle
  refine ⟨C, (Builtin.zeroCells (Value.int .u8 0).cells n ++ Builtin.zeroCells (Value.int .u8 0).cells (C - n)).toList, hge, by unfold maxLen at hle; omega, ?_, ?_⟩
  · simp [size_zeroCells, Value.cells]; omega
  · intro ty; rw [h, Array.toArray_toList]

section
variable {w wr w1 : World} {q p : Nat} {v : Value} {l : List UInt8} {z base off F N C g m : Nat} {ch : Value} {xs : List Value} {bss : List (List UInt8)}
/-- The end has been read: what the chunks and the last one hold. -/
structure RaE (w w1 : World) (q : Nat) (ch : Value) (m : Nat) (xs : List Value) (bss : List (List UInt8)) (y : Value) (tl out : List UInt8) : Prop where
  own : w1.ownsRow w.heap.size 58 1 ch m xs
  parts : PartsL w1 w.heap.size w1.heap.size none xs bss
  len : bss.length = m
  last : PartL w1 w.heap.size w1.heap.size none y tl
  out : bss.flatten ++ tl = out
  keep : Keep (fun k => k = q) w w1
theorem RaS.ends (h : RaS w wr q p v l z base off F N C g m ch xs bss) (hk : Keep (fun k => k = g ∨ k = q) wr w1) (n : Nat) (hn : n = l.length - (off + F)) (hC : n ≤ C) (cur : List Value)
    (hrow : w1.heap[g]? = some (.cells cur.toArray 5 (0, 0))) (hcur : ∀ j, j < n → cur[j]? = (Lib.byteCells (l.drop (off + F)))[j]?) : RaE w w1 q ch m xs bss (.slice (some ⟨g, 0, none⟩) n C) (l.drop (off + F)) (l.drop off) := by
  have hgw := h.gw
  have hs1 := hk.size
  have hw := h.keep.size
  have hlo := h.own.lt
  have hqw := h.qw
  have hglo := h.lo
  have hfl := h.fl
  have hbs : (l.drop (off + F)).length = n := by rw [List.length_drop]; omega
  refine ⟨ownsRow_keep h.own hk ?_, h.parts.keep hk (fun b h1 h2 _ => by omega) (by omega) (fun _ _ _ h => by cases h), h.len, ?_, ?_, h.keep.trans2 hk (fun i hi e => by omega)⟩
  · rintro k (rfl | rfl)
    · exact h.gne
    · intro e; have := hlo _ e.symm; omega
  · refine ⟨g, C, by rw [hbs], by omega, hglo, by omega, by omega, (by simp), fun i hi => ?_⟩
    rw [Nat.zero_add, cell_of_row' hrow i, hcur i (by omega)]
    simp only [Lib.byteCells, List.getElem?_map, List.getElem?_eq_getElem hi, Option.map_some]
  · rw [h.eq, ← List.drop_drop]; exact List.take_append_drop _ _
end
theorem bs_of_part {w : World} {lo hi : Nat} {r : Option Nat} {x : Value} {bs : List UInt8} (h : PartL w lo hi r x bs) : ∃ A c, x = .slice A bs.length c ∧ BS w x bs := by
  obtain ⟨b, c, rfl, h1, _, _, _, _, h2⟩ := h
  exact ⟨_, c, rfl, BS.of_cells (o := 0) h1 h2⟩
theorem bytesNil_of {w : World} {A : Option Addr} {n c : Nat} {bs l : List UInt8} (h : BS w (.slice A n c) bs) (e : bs = l) : BytesNil l (.returned (.tuple #[.slice A n c, .nilIface])) w := by
  subst e
  have h' := h
  obtain ⟨A', c', e1, _⟩ := h'
  injection e1 with e1 e2 e3
  subst e1 e2 e3
  exact ⟨_, _, rfl, h⟩
theorem flat_take {α : Type} (L : List (List α)) (k : Nat) (x : List α) (h : L[k]? = some x) : (L.take (k + 1)).flatten = (L.take k).flatten ++ x := by
  have hk : k < L.length := by
    rcases Nat.lt_or_ge k L.length with h' | h'
    · exact h'
    · rw [List.getElem?_eq_none h'] at h; cases h
  rw [List.take_add_one, h]; simp
theorem byteCells_append (a b : List UInt8) : Lib.byteCells (a ++ b) = Lib.byteCells a ++ Lib.byteCells b := by simp [Lib.byteCells]

theorem makeCap {x : Value} {t e : TypeId} {b c : Nat} (ht : Tryz.prog.underlying t = some (.slice e)) (hi : (Tryz.prog.info? e).map (fun i => (i.zero, i.size, i.bytes)) = some (some x, 1, b)) (hb : (b : Int) * (c : Int) ≤ 281474976710656) (hc : c ≤ 4096) (hx : x.cells = #[x]) (W : World) :
    (Instr.makeSlice t (.int .i64 0) (.int .i64 (c : Int))).run Tryz.prog W = .ok (.slice (some ⟨W.heap.size, 0, none⟩) 0 c) (W.alloc (.cells (List.replicate c x).toArray e (0, 0))) := by
  obtain ⟨i, hi, h2⟩ := Option.map_eq_some_iff.1 hi
  simp only [Prod.mk.injEq] at h2
  obtain ⟨hz, hsz, hby⟩ := h2
  have hr := run_make (P := Tryz.prog) W t e i _ ht hi hz .i64 .i64 0 (c : Int) (by omega) (by omega) (by rw [hby]; exact hb) (by omega)
  have e1 : madeCells x.cells (Int.toNat (c : Int) * i.size) = (List.replicate c x).toArray := by
    rw [hsz, hx]
    apply Array.ext
    · simp [size_madeCells]
    · intro j h1 h2
      have h0 : [x][j % 1]?.getD default = x := by rw [Nat.mod_one]; rfl
      have h3 : (List.replicate c x).toArray[j] = x := by rw [List.getElem_toArray]; exact List.getElem_replicate ..
      rw [h3]
      simp [madeCells, h0]
  rw [e1] at hr
  simpa using hr
theorem info_bsl3 : (Tryz.prog.info? 58).map (fun i => (i.zero, i.size, i.bytes)) = some (some (.slice none 0 0), 1, 24) := by kernel_rfl
theorem cut_own (x a C n : Nat) (hn : n ≤ C) (W : World) : (Instr.slice 58 (.slice (some ⟨x, 0, none⟩) a C) none (some (.int .i64 (n : Int))) none).run Tryz.prog W = .ok (.slice (some ⟨x, 0, none⟩) n C) W := by
  have ht' : Tryz.prog.underlying 58 = some (.slice (Tryz.prog.elem 58)) := by simp [Program.elem, Tryz.underlying58]
  have he : Tryz.prog.elem 58 = 5 := by simp [Program.elem, Tryz.underlying58]
  rw [run_slice_h W _ _ _ _ ht' .i64 _ (by omega) (by omega), he, run_size info_u8, Int.toNat_natCast]
  simp [Result.andThen, sliced, Addr.add]
theorem cut_all (x C : Nat) (W : World) : (Instr.slice 58 (.slice (some ⟨x, 0, none⟩) 0 C) (some (.int .i64 0)) (some (.int .i64 (C : Int))) none).run Tryz.prog W = .ok (.slice (some ⟨x, 0, none⟩) C C) W := by
  have ht' : Tryz.prog.underlying 58 = some (.slice (Tryz.prog.elem 58)) := by simp [Program.elem, Tryz.underlying58]
  have he : Tryz.prog.elem 58 = 5 := by simp [Program.elem, Tryz.underlying58]
  rw [run_slice_lh W _ _ _ _ ht' .i64 .i64 _ _ (by omega) (by omega) (by omega), he, run_size info_u8, Int.toNat_natCast]
  simp [Result.andThen, sliced, Addr.add]

/-- Ahead of the first round. -/
theorem RaS.start {w : World} {q p : Nat} {v : Value} {l : List UInt8} {z base off : Nat} (hr : Ors w q p v l z base off) (hoff : off ≤ l.length) (hqw : q < w.heap.size) :
    RaS w ((w.alloc (.cells (List.replicate 512 (Value.int .u8 0)).toArray 5 (0, 0))).alloc (.cells (List.replicate 4 (Value.slice none 0 0)).toArray 58 (0, 0))) q p v l z base off 0 256 512 w.heap.size 0 (.slice (some ⟨w.heap.size + 1, 0, none⟩) 0 4) [] [] := by
  have B1 : Below w.heap.size w ((w.alloc (.cells (List.replicate 512 (Value.int .u8 0)).toArray 5 (0, 0))).alloc (.cells (List.replicate 4 (Value.slice none 0 0)).toArray 58 (0, 0))) := ((Below.refl _ _).alloc (Nat.le_refl _) _).alloc (by rw [World.size_alloc]; omega) _
  have r0 := heap_alloc_new w (.cells (List.replicate 512 (Value.int .u8 0)).toArray 5 (0, 0))
  have own := World.ownsRow_made (base := w.heap.size) (e := 58) (size := 1) (w.alloc (.cells (List.replicate 512 (Value.int .u8 0)).toArray 5 (0, 0))) (List.replicate 4 (Value.slice none 0 0)).toArray 4 (by rw [World.size_alloc]; omega) (by unfold maxLen; omega) (by simp)
  rw [World.size_alloc] at own
  refine ⟨hr.below B1, ⟨_, row_below (Below.alloc (Below.refl _ _) (Nat.le_refl _) _) (block_of_row r0) r0, List.length_replicate⟩, Nat.le_refl _, hqw, own, ?_, ⟨rfl, fun j x bs h => by simp at h⟩, rfl, by simp, by omega, by omega, B1.keep⟩
  intro e
  injection e with e
  have : w.heap.size = w.heap.size + 1 := e
  omega

set_option maxRecDepth 100000 in
set_option maxHeartbeats 8000000 in
theorem readAll_ok (q p : Nat) (v : Value) (l : List UInt8) (z base off : Nat) (w : World) (hr : Ors w q p v l z base off) (hoff : off ≤ l.length) (hl : l.length ≤ 4294967296) (e0 : Addr) (he : ErrAt p w 0 e0) :
    Calls Tryz.prog 20 #[orsV q] w fun e w' => BytesNil (l.drop off) e w' ∧ Keep (fun k => k = q) w w' := by
  obtain ⟨i0, hi, hz0, hz1, hz2⟩ := info_bsl
  obtain ⟨i1, hi1, hy0, hy1, hy2⟩ := info_u8'
  have hna := fun w => nil_orsRead ⟨q, 0, none⟩ w
  have hme := fun w => method_orsRead ⟨q, 0, none⟩ w
  have hmf : ∀ (fn : Fn) (first cap : Array Value) (w : World), (Instr.makeFunc fn first cap).run Tryz.prog w = .ok (.func fn first cap) w := fun _ _ _ _ => rfl
  have heq := fun w => run_eqErr_same e0 w
  have hqw : q < w.heap.size := by obtain ⟨b, h⟩ := hr.row; exact block_of_row h
  have HS := Lib.hid (RaS.start hr hoff hqw)
  have HE := Lib.hid he
  have mk1 := makeCap (c := 512) Tryz.underlying58 info_u8 (by omega) (by omega) rfl
  have mk2 := makeCap (c := 4) Tryz.underlying107 info_bsl3 (by omega) (by omega) rfl
  rw [show ((512 : Nat) : Int) = 512 from rfl] at mk1
  rw [show ((4 : Nat) : Int) = 4 from rfl] at mk2
  have hpq := hr.lt
  clear hr he
  go_enter Tryz.func20, Tryz.ntmps20
  go_wp2
  go_loopw [4, 5, 6, 7] (fun b nx ch fin wr => ∃ (F N C g m cc : Nat) (A : Option Addr) (xs : List Value) (bss : List (List UInt8)), b = .slice (some ⟨g, 0, none⟩) 0 C ∧ nx = .int .i64 N ∧ ch = .slice A m cc ∧ fin = .int .i64 F ∧ Hid (RaS w wr q p v l z base off F N C g m ch xs bss)) (fun _ _ _ fin _ => l.length + 1 - (intOf fin).toNat)
  case atStart => exact ⟨0, 256, 512, w.heap.size, 0, 4, _, [], [], rfl, rfl, rfl, rfl, HS⟩
  case round =>
    obtain ⟨F, N, C, g, m, cc, A, xs, bss, rfl, rfl, rfl, rfl, HR⟩ := hrel
    obtain ⟨n1, n2, n3, n4, n5, n6⟩ := HR.out.num
    have hfl := HR.out.fl
    have hgw := HR.out.gw
    have hlo := HR.out.lo
    have hkw := HR.out.keep.size
    have hE := HE.out.keep HR.out.keep (fun k h => by omega)
    obtain ⟨cur, hrow, hcur⟩ := HR.out.row
    have sl1 := cut_all g C
    by_cases hfull : C ≤ l.length - (off + F)
    · have hC := orsRead_some q p g 0 C C v l z base (off + F) cur 5 (some ⟨g, 0, none⟩) wr.drew HR.out.ors.drew (by omega) (by omega) (by omega) hrow (fun _ => rfl) (by omega) (by omega) e0 hE.drew
      rw [show min C (l.length - (off + F)) = C by omega, if_neg (by omega)] at hC
      have HC := Lib.hid hC
      have sl2 := cut_own g 0 C C (by omega)
      have hCl : C ≤ 4294967296 := by omega
      have hFC : F + C ≤ 4294967296 := by omega
      have HFL := Lib.hid hfl
      have HCU := Lib.hid hcur
      have HFU := Lib.hid hfull
      clear hrow hC hE hfl hcur hfull
      go_wp2_with fail
      go_region_with (go_at_call 158; refine HC.out.mono ?_; rintro e w1 ⟨rfl, hr1, hg1, hk1⟩)
      have HR1 := Lib.hid hr1
      have HG1 := Lib.hid hg1
      have HK1 := Lib.hid ((keep_drew _ wr).trans hk1)
      clear hr1 hg1 hk1
      have hq : (0 : Int) < (C : Int) / 16 := by omega
      obtain ⟨Ag, hAg⟩ : ∃ A', A' = A := ⟨_, rfl⟩
      have hown1 : w1.ownsRow w.heap.size 58 1 (.slice A m cc) m xs := ownsRow_keep HR.out.own HK1.out (by
        intro k hk
        rcases hk with hk | hk
        · rw [hk]; exact HR.out.gne
        · intro e; have := HR.out.own.lt _ e.symm; omega)
      have hw1 : wr.heap.size ≤ w1.heap.size := HK1.out.size
      have HQ := Lib.hid hq
      clear hq hAg
      go_wp2_with (at_builtin; refine wpList_append_own_at _ rfl _ _ 107 rfl w.heap.size 58 i0 (.slice none 0 0) 1 24 Tryz.underlying107 hi hz0 hz1 hz2 rfl (by decide) _ _ _ rfl (hown1.alloc _) ⟨w1.heap.size, 0, none⟩ 1 1 [.slice (some ⟨g, 0, none⟩) C C] rfl rfl ?c1 ?c2 ?c3 ?c4 ?c5 ?_)
      case c1 =>
        intro j u hj
        match j, hj with
        | 0, hj => simp at hj; subst hj; simp [Addr.add]
      case c2 => intro u hu; simp at hu; subst hu; rfl
      case c3 => unfold maxLen; omega
      case c4 => omega
      case c5 => rw [World.size_alloc]; omega
      intro ch' w3 hown' hgrow _ hat
      obtain ⟨C', cs, hC1, hC2, hcs, hz⟩ := zeros_run w3 N (by omega) (by omega)
      have hrow1 := HG1.out.out
      rw [splice_whole _ _ (by rw [Lib.byteCells_length, List.length_take, List.length_drop, HCU.out]; have := HFU.out; omega)] at hrow1
      have HNX := Lib.hid (HR.out.next HK1.out HR1.out (by have := HFL.out; have := HFU.out; omega) hrow1 _ hgrow hown' (by rw [World.size_alloc]; exact hat) cs C' hcs hC1 hC2)
      have sl3 := cut_own w3.heap.size N C' 0 (by omega)
      rw [show ((0 : Nat) : Int) = 0 from rfl] at sl3
      have hq := HQ.out
      rcases hown'.2 with ⟨_, h0⟩ | ⟨gc, cc', cu', rfl, _⟩
      · omega
      clear hown1 hown' hgrow hat hcs hrow1 HC HG1
      go_wp2_with (at_builtin; refine Lib.wpList_append_run _ rfl _ _ _ _ rfl _ _ rfl rfl _ _ (hz _) ?_)
      go_roundw
      case rel => exact ⟨F + C, N + N / 2, C', w3.heap.size, m + 1, cc', _, _, _, rfl, by go_num, rfl, by go_num, HNX⟩
      case measure =>
        have e1 : ((F : Int) + (C : Int)).toNat = F + C := by omega
        have := HFL.out
        have := HFU.out
        simp only [intOf, e1, Int.toNat_natCast]
        omega
    · obtain ⟨K, hK⟩ : ∃ K, K = l.length - (off + F) := ⟨_, rfl⟩
      have hKC : K < C := by omega
      have HC : Hid (Calls Tryz.prog 158 #[.pointer (some ⟨q, 0, none⟩), .slice (some ⟨g, 0, none⟩) C C] wr.drew fun e w' => e = .returned (.tuple #[.int .i64 K, errV e0]) ∧ RaE w w' q (.slice A m cc) m xs bss (.slice (some ⟨g, 0, none⟩) K C) (l.drop (off + F)) (l.drop off)) := by
        by_cases hlt : off + F < l.length
        · have hC := orsRead_some q p g 0 C C v l z base (off + F) cur 5 (some ⟨g, 0, none⟩) wr.drew HR.out.ors.drew hlt (by omega) (by omega) hrow (fun _ => rfl) (by omega) (by omega) e0 hE.drew
          rw [show min C (l.length - (off + F)) = K by omega, if_pos (by omega)] at hC
          refine Lib.hid (hC.mono ?_)
          rintro e w1 ⟨rfl, hr1, hg1, hk1⟩
          refine ⟨rfl, HR.out.ends ((keep_drew _ wr).trans hk1) K hK (by omega) _ hg1.out fun j hj => ?_⟩
          rw [splice_get _ _ _ (by rw [Lib.byteCells_length, List.length_take, List.length_drop]; omega), if_pos (by rw [Lib.byteCells_length, List.length_take, List.length_drop]; omega), Nat.sub_zero]
          rw [List.take_of_length_le (by rw [List.length_drop]; omega)]
        · have hC := orsRead_end q p C C v l z base (off + F) (some ⟨g, 0, none⟩) wr.drew HR.out.ors.drew (by omega) e0 hE.drew
          obtain rfl : K = 0 := by omega
          refine Lib.hid (hC.mono ?_)
          rintro e w1 ⟨rfl, hr1, hk1⟩
          have hk2 : Keep (fun k => k = g ∨ k = q) wr w1 := ((keep_drew _ wr).trans hk1).mono fun _ _ h => Or.inr h
          exact ⟨rfl, HR.out.ends hk2 0 hK (by omega) cur (((keep_drew _ wr).trans hk1).row hrow (by omega)) fun j hj => by omega⟩
      have sl2 := cut_own g 0 C K (by omega)
      have hdl : (l.drop off).length = F + K := by rw [List.length_drop]; omega
      have hFK : F + K ≤ 4294967296 := by omega
      have HD := Lib.hid hdl
      have hmF : m = 0 → F = 0 := by
        intro h0
        have h1 := HR.out.eq
        have h2 := HR.out.len
        rw [h0] at h2
        rw [List.eq_nil_of_length_eq_zero h2] at h1
        have := congrArg List.length h1
        rw [List.length_take] at this
        simp at this
        omega
      have HMF := Lib.hid hmF
      have HE1 := Lib.hid hE
      have HEQ := Lib.hid heq
      have heq1 := fun w => run_eqErr_same e0 w
      clear hrow hE hfl hcur hfull hK hdl hmF
      go_wp2_with fail
      go_region_with (go_at_call 158; refine HC.out.mono ?_; rintro e w1 ⟨rfl, hE1⟩)
      have hce := (HE.out.keep hE1.keep (fun k h => by omega)).cell
      have HX := Lib.hid hE1
      have hw1 := hE1.keep.size
      clear hE1 HC
      by_cases hm0 : m = 0
      · have hm1 : ((m : Int) == 0) = true := by simp; omega
        go_wp2
        go_ret2
        have hF0 := HMF.out hm0
        have hbl : bss = [] := List.eq_nil_of_length_eq_zero (by rw [HX.out.len, hm0])
        have ho := HX.out.out
        rw [hbl, List.flatten_nil, List.nil_append] at ho
        obtain ⟨A1, c1, e1, hb1⟩ := bs_of_part HX.out.last
        exact ⟨bytesNil_of hb1 ho, HX.out.keep⟩
      · have hm1 : ((m : Int) == 0) = false := by simp; omega
        have hmpos : 0 < m := by omega
        obtain ⟨C5, cs, hC1, hC2, hcs, hz⟩ := zeros_run w1 (F + K) (by omega) (by omega)
        have sl3 := cut_own w1.heap.size (F + K) C5 0 (by omega)
        rw [show ((0 : Nat) : Int) = 0 from rfl] at sl3
        have hB5 : Below w1.heap.size w1 (w1.drew.alloc (.cells cs.toArray 5)) := ((Below.refl _ _).drew).alloc (Nat.le_refl _) _
        have hown5 : (w1.drew.alloc (.cells cs.toArray 5)).ownsRow w1.heap.size 5 1 (.slice (some ⟨w1.heap.size, 0, none⟩) 0 C5) 0 [] := World.ownsRow_made w1.drew cs.toArray C5 (Nat.le_refl _) (by unfold maxLen; omega) (by simpa using hcs)
        have hz' : ∀ ty : TypeId, (Builtin.append_ #[58, 3] ty #[.slice none 0 0, .int .i64 ((F : Int) + (K : Int))]).run Tryz.prog w1 = .ok (.slice (some ⟨w1.heap.size, 0, none⟩) (F + K) C5) (w1.drew.alloc (.cells cs.toArray 5)) := fun ty => by have := hz ty; rwa [Int.natCast_add] at this
        rcases HX.out.own.2 with ⟨_, h0⟩ | ⟨gc, cc', cu', hvv, hrest⟩
        · omega
        injection hvv with hv1 _ hv3
        subst hv1 hv3
        have hxl : xs.length = m := by rw [HX.out.parts.1, HX.out.len]
        have hcells : ∀ k u, xs[k]? = some u → w1.cell? ⟨gc, k, none⟩ = some u := by
          intro k u hk
          have := HX.out.own.cells (g := gc) rfl k u hk
          rwa [Addr.add_lit, Nat.zero_add] at this
        have HCE := Lib.hid hcells
        have HB5 := Lib.hid hB5
        have HO5 := Lib.hid hown5
        clear hz hrest hcells hB5 hown5 hcs
        go_wp2_with (at_builtin; refine Lib.wpList_append_run _ rfl _ _ _ _ rfl _ _ rfl rfl _ _ (hz' _) ?_)
        go_loopw [10, 54] (fun fv ix wr2 => ∃ (k n : Nat) (ys : List Value), k ≤ m ∧ ix = .int .i64 k ∧ Hid (ys = Lib.byteCells (bss.take k).flatten ∧ n = (bss.take k).flatten.length) ∧ Hid (wr2.ownsRow w1.heap.size 5 1 fv n ys) ∧ Hid (Below w1.heap.size w1 wr2)) (fun _ ix _ => m - (intOf ix).toNat)
        case atStart => exact ⟨0, 0, [], Nat.zero_le _, rfl, Lib.hid ⟨by simp [Lib.byteCells], by simp⟩, HO5, HB5⟩
        case round =>
          obtain ⟨k, n, ys, hk, rfl, HY, HO, HB⟩ := hrel
          have hbn := HB.out.size
          by_cases hlt : k < m
          · have hkx : k < xs.length := by omega
            have hkb : k < bss.length := by rw [HX.out.len]; omega
            obtain ⟨x, hx⟩ : ∃ x, xs[k]? = some x := ⟨_, List.getElem?_eq_getElem hkx⟩
            obtain ⟨bs, hbs⟩ : ∃ bs, bss[k]? = some bs := ⟨_, List.getElem?_eq_getElem hkb⟩
            obtain ⟨bk, ck, rfl, j1, j2, j3, j4, j5, j6⟩ := HX.out.parts.2 k x bs hx hbs
            have hc0 := below_cell HB.out (HCE.out k _ hx)
            have hflat := flat_take bss k bs hbs
            have hle : (bss.take (k + 1)).flatten.length ≤ F + K := by
              rw [← HD.out, ← HX.out.out, List.length_append]
              have := congrArg List.length (congrArg List.flatten (List.take_append_drop (k + 1) bss))
              rw [List.flatten_append, List.length_append] at this
              omega
            rw [hflat, List.length_append, ← HY.out.2] at hle
            have HFL2 := Lib.hid hflat
            have HJ6 := Lib.hid j6
            have HBS := Lib.hid hbs
            clear hx hbs hflat j6
            go_wp2_with (at_builtin; refine wpList_append_own_at _ rfl _ _ 58 rfl w1.heap.size 5 i1 (.int .u8 0) 1 1 Tryz.underlying58 hi1 hy0 hy1 hy2 rfl (by decide) _ _ _ rfl HO.out ⟨bk, 0, none⟩ bs.length ck (Lib.byteCells bs) rfl ?c1 ?c2 ?c3 ?c4 ?c5 ?c6 ?_)
            case c1 => rw [Lib.byteCells_length, Nat.mul_one]
            case c2 =>
              intro j u hj
              have hjb : j < bs.length := by
                rcases Nat.lt_or_ge j bs.length with h | h
                · exact h
                · rw [List.getElem?_eq_none (by rw [Lib.byteCells_length]; exact h)] at hj; cases hj
              simp only [Lib.byteCells, List.getElem?_map, List.getElem?_eq_getElem hjb, Option.map_some, Option.some.injEq] at hj
              rw [Addr.add_lit, ← hj]
              exact below_cell HB.out (HJ6.out j hjb)
            case c3 => exact fun u hu => Lib.byteCells_one bs u hu
            case c4 => unfold maxLen; omega
            case c5 => omega
            case c6 => exact hbn
            intro v' w6 hown' hgrow _ _
            have HO6 := Lib.hid hown'
            have HB6 := Lib.hid (HB.out.grown hgrow hbn (fun q hq => (HO.out.lt q hq).1))
            clear hown' hgrow
            go_wp2
            go_roundw
            case rel => exact ⟨k + 1, n + bs.length, _, by omega, by go_num, Lib.hid ⟨by rw [HFL2.out, byteCells_append, ← HY.out.1], by rw [HFL2.out, List.length_append, ← HY.out.2]⟩, HO6, HB6⟩
            case measure => simp [intOf]; omega
          · obtain rfl : k = m := by omega
            have hall : (bss.take k).flatten = bss.flatten := by rw [List.take_of_length_le (by rw [HX.out.len]; exact Nat.le_refl _)]
            have hlen : n + (l.drop (off + F)).length = F + K := by
              rw [← HD.out, ← HX.out.out, List.length_append, HY.out.2, hall]
            obtain ⟨bk, ck, ey, j1, j2, j3, j4, j5, j6⟩ := HX.out.last
            injection ey with e1 e2 e3
            injection e1 with e1
            injection e1 with e1 _
            subst e1 e3
            rw [← e2] at hlen
            have HLN := Lib.hid hlen
            have HALL := Lib.hid hall
            have HJ6 := Lib.hid j6
            have HE2 := Lib.hid e2
            clear hall hlen j6 e2
            go_wp2_with (at_builtin; refine wpList_append_own_at _ rfl _ _ 58 rfl w1.heap.size 5 i1 (.int .u8 0) 1 1 Tryz.underlying58 hi1 hy0 hy1 hy2 rfl (by decide) _ _ _ rfl HO.out ⟨g, 0, none⟩ K C (Lib.byteCells (l.drop (off + F))) rfl ?c1 ?c2 ?c3 ?c4 ?c5 hbn ?_)
            case c1 => rw [Lib.byteCells_length]; have := HE2.out; omega
            case c2 =>
              intro j u hj
              have hjb : j < (l.drop (off + F)).length := by
                rcases Nat.lt_or_ge j (l.drop (off + F)).length with h | h
                · exact h
                · rw [List.getElem?_eq_none (by rw [Lib.byteCells_length]; exact h)] at hj; cases hj
              simp only [Lib.byteCells, List.getElem?_map, List.getElem?_eq_getElem hjb, Option.map_some, Option.some.injEq] at hj
              have h := below_cell HB.out (HJ6.out j hjb)
              rw [Nat.zero_add] at h
              rw [← hj]
              exact h
            case c3 => exact fun u hu => Lib.byteCells_one _ u hu
            case c4 => have := HLN.out; unfold maxLen; omega
            case c5 => have := HLN.out; omega
            intro v' w6 hown' hgrow _ _
            have HB6 := Lib.hid (HB.out.grown hgrow hbn (fun q hq => (HO.out.lt q hq).1))
            rw [HY.out.1, HALL.out, ← byteCells_append, HX.out.out] at hown'
            obtain ⟨A1, c1, rfl, hb1⟩ := bs_of_own hown'
            have HBO := Lib.hid hb1
            clear hown' hgrow hb1
            go_wp2
            go_ret2
            exact ⟨bytesNil_of HBO.out rfl, HX.out.keep.trans HB6.out.keep⟩
end Go.Proofs.YtglkonccinpdnaaGreatDoor
/- Contracts: impl.RdIndex of a file of version 2. -/
namespace Go.Proofs.YtglkonccinpdnaaGreatDoor
open Go.RowKit

/-- What is open of a file of version 2: the reader of archives in block cr. -/
def Open2 (l : List UInt8) (B : Nat) (w : World) (cr : Nat) : Prop := ∃ (p : Nat) (v : Value), B ≤ p ∧ w.heap[cr]? = some (crO p (leAt l 11 0) (leAt l 11 1) (leAt l 11 2) (leAt l 11 3) (leAt l 11 4) 2) ∧ Rdr w p v l 0
theorem Open2.on {l : List UInt8} {B : Nat} (cr : Nat) (w1 w2 : World) (hb : Below w1.heap.size w1 w2) (h : Open2 l B w1 cr) : Open2 l B w2 cr := by
  obtain ⟨p, v, hB, hr, h⟩ := h
  exact ⟨p, v, hB, row_below hb (block_of_row hr) hr, h.below hb⟩

theorem UvErrs.below {w w' : World} {e0 e1 : Addr} {E2 E3 : Value} (h : UvErrs w.heap.size w e0 e1 E2 E3) (hb : Below w.heap.size w w') : UvErrs w.heap.size w' e0 e1 E2 E3 := h.keep (S := fun _ => False) hb.keep (fun _ h => h.elim)

theorem reader2 (s : ByteArray) (hs : s.size ≤ 4294967296) (hp : s.data.toList.take 11 = 10 :: pragB) (hok : hdOk s.data.toList 11) (w : World) (e0 e1 : Addr) (t2 t3 : TypeId) (p2 p3 : Value) (he : UvErrs w.heap.size w e0 e1 (.iface t2 p2) (.iface t3 p3)) :
    Calls Tryz.prog 18 #[.string s, optsIn] w fun e w' => ∃ cr, e = .returned (.tuple #[.pointer (some ⟨cr, 0, none⟩), .bool true]) ∧ Open2 s.data.toList w.heap.size w' cr ∧ Below w.heap.size w w' := by
  have hl : s.data.toList.length ≤ 4294967296 := by rw [Array.length_toList]; exact hs
  refine reader_any s hs w (Open2 s.data.toList w.heap.size) Open2.on ?_
  intro W p v' vo hW ho hr hB
  have hpw : p < W.heap.size := by obtain ⟨r, h⟩ := hr.row; exact block_of_row h
  refine (newReader2 p v' s.data.toList 0 vo W ho hr hpw hp hok hl e0 e1 t2 t3 p2 p3 ((he.below hW).mono hB)).mono ?_
  rintro e w' ⟨rfl, h1, h2, h3⟩
  exact ⟨_, rfl, h3, p, v', hB, h1, h2⟩

set_option maxRecDepth 100000 in
set_option maxHeartbeats 2000000 in
/-- There is no index. -/
theorem rdIndex_no (s : ByteArray) (hs : s.size ≤ 4294967296) (hp : s.data.toList.take 11 = 10 :: pragB) (hok : hdOk s.data.toList 11) (h0 : leAt s.data.toList 11 4 = 0) (w : World) (e0 e1 : Addr) (t2 t3 : TypeId) (p2 p3 : Value) (he : UvErrs w.heap.size w e0 e1 (.iface t2 p2) (.iface t3 p3)) :
    Calls Tryz.prog 7 #[.string s, optsIn] w fun e w' => e = .returned (.tuple #[.string ⟨#[]⟩, .bool false, .bool true]) ∧ Below w.heap.size w w' := by
  have B1 : Below w.heap.size w (w.alloc (.cells #[.bool false, .bool false, .bool false, .bool false, .bool false, .bool false, .int .u64 0, .int .u64 0, .int .u64 0, .int .u64 0, .int .u64 0, .int .u64 0] 30)) := (Below.refl _ _).alloc (Nat.le_refl _) _
  have HC := Lib.hid (reader2 s hs hp hok _ e0 e1 t2 t3 p2 p3 ((he.below B1).mono B1.size))
  have HB1 := Lib.hid B1
  have H0 := Lib.hid h0
  clear he hp hok B1 h0
  go_enter Tryz.func7, Tryz.ntmps7
  go_wp2_with fail
  refine HC.out.mono ?_
  rintro e w1 ⟨cr, rfl, ⟨p, v, hB, hrow, hr⟩, hb⟩
  rw [H0.out] at hrow
  have HI := Lib.hid (indexReader_no cr p _ _ _ _ w1 hrow)
  have HB2 := Lib.hid (below_next HB1.out hb)
  clear hB hrow hr hb HC
  go_wp2_with fail
  refine HI.out.mono ?_
  rintro e w2 ⟨rfl, hb2⟩
  have HB3 := Lib.hid (below_next HB2.out hb2)
  clear hb2 HI
  go_wp2
  go_quiet (fail)
  go_wp2
  go_ret3
  exact ⟨rfl, HB3.out.drewN _⟩

set_option maxRecDepth 100000 in
set_option maxHeartbeats 2000000 in
/-- All from where the index begins. -/
theorem rdIndex_yes (s : ByteArray) (hs : s.size ≤ 4294967296) (hp : s.data.toList.take 11 = 10 :: pragB) (hok : hdOk s.data.toList 11) (x : Nat) (hx : leAt s.data.toList 11 4 = x) (h0 : 0 < x) (hxl : x ≤ s.size) (D : ByteArray) (hD : D = ⟨(s.data.toList.drop x).toArray⟩) (w : World) (e0 e1 : Addr) (t2 t3 : TypeId) (p2 p3 : Value) (he : UvErrs w.heap.size w e0 e1 (.iface t2 p2) (.iface t3 p3)) :
    Calls Tryz.prog 7 #[.string s, optsIn] w fun e w' => e = .returned (.tuple #[.string D, .bool true, .bool true]) ∧ Below w.heap.size w w' := by
  have hl : s.data.toList.length = s.size := by rw [Array.length_toList]; rfl
  have B1 : Below w.heap.size w (w.alloc (.cells #[.bool false, .bool false, .bool false, .bool false, .bool false, .bool false, .int .u64 0, .int .u64 0, .int .u64 0, .int .u64 0, .int .u64 0, .int .u64 0] 30)) := (Below.refl _ _).alloc (Nat.le_refl _) _
  have HC := Lib.hid (reader2 s hs hp hok _ e0 e1 t2 t3 p2 p3 ((he.below B1).mono B1.size))
  have HB1 := Lib.hid B1
  have HX := Lib.hid hx
  have HE := Lib.hid he
  have HL := Lib.hid hl
  have HDD := Lib.hid hD
  clear he hp hok B1 hx hl hD
  go_enter Tryz.func7, Tryz.ntmps7
  go_wp2_with fail
  refine HC.out.mono ?_
  rintro e w1 ⟨cr, rfl, ⟨p, v, hB, hrow, hr⟩, hb⟩
  rw [HX.out] at hrow
  have hs1 := HB1.out.size
  have HI := Lib.hid (indexReader_yes cr p x v s.data.toList 0 _ _ _ _ w1 hrow h0 (by rw [HL.out]; exact hxl) (by rw [HL.out]; exact hs) hr)
  have HB2 := Lib.hid (below_next HB1.out hb)
  have hs2 := hb.size
  clear hrow hr hb HC
  go_wp2_with fail
  refine HI.out.mono ?_
  rintro e w2 ⟨q, rfl, hq, ho, hb2⟩
  have hB3 := below_next HB2.out hb2
  have HR := Lib.hid (readAll_ok q p v s.data.toList 0 x x w2 ho (by rw [HL.out]; exact hxl) (by rw [HL.out]; exact hs) e0 ((HE.out.below hB3).eof.mono (by omega)))
  have HB3 := Lib.hid hB3
  clear ho hb2 hB3 HI
  go_wp2_with fail
  refine HR.out.mono ?_
  rintro e w3 ⟨⟨A, c, rfl, hbs⟩, hk⟩
  have HB4 := Lib.hid (HB3.out.trans (hk.below (fun k h1 h2 => by omega) HB3.out.size))
  have hcv : ∀ W, Below w3.heap.size w3 W → (convert 58 9 (.slice A (s.data.toList.drop x).length c)).run Tryz.prog W = .ok (.string D) W := fun W hW => by rw [HDD.out]; exact (hbs.below hW).str (dst := 9) Tryz.underlying58 Tryz.underlying5 Tryz.underlying9
  have hcd := hcv w3.drew (below_drewN _ _ 1)
  generalize (s.data.toList.drop x).length = n at *
  clear hbs hk hcv HR
  go_wp2_with fail
  go_region_with (fail)
  all_goals
    go_wp2
    go_ret3
    exact ⟨rfl, HB4.out.drewN 1⟩
end Go.Proofs.YtglkonccinpdnaaGreatDoor
/- Contracts: spec.little, spec.HeadBytes, spec.NewHead; impl.headOut. (out of C2J) -/
namespace Go.Proofs.YtglkonccinpdnaaGreatDoor
open Go.RowKit Go.Sort

theorem cell_in {w : World} {a : Addr} {v : Value} (h : w.cell? a = some v) (d : Nat) (os : Array Obj) : (grow (redrawn w d) os).cell? a = some v := cell_regrown h d os
theorem leCells (n : Nat) (x : Int) (hx : (n : Int) = x) :
    (#[.int .u8 (x % 256), .int .u8 (x / 256 % 256), .int .u8 (x / 65536 % 256), .int .u8 (x / 16777216 % 256), .int .u8 (x / 4294967296 % 256), .int .u8 (x / 1099511627776 % 256), .int .u8 (x / 281474976710656 % 256), .int .u8 (x / 72057594037927936 % 256)] : Array Value)
      = (Lib.byteCells (Lib.leBytes 8 n)).toArray := by
  subst hx
  have h : ∀ m : Nat, (UInt8.ofNat (m % 256)).toNat = m % 256 := fun m => by simp
  simp only [Lib.leBytes, Lib.byteCells, List.map_cons, List.map_nil, h, Nat.div_div_eq_div_mul, Nat.reduceMul, Int.natCast_emod, Int.natCast_ediv]
  rfl

set_option maxRecDepth 100000 in
set_option maxHeartbeats 1000000 in
theorem little_any (n : Nat) (hn : n < 18446744073709551616) (w : World) :
    Calls Tryz.prog 17 #[.int .u64 n] w fun e w' => e = .returned (.string ⟨(Lib.leBytes 8 n).toArray⟩) ∧ Below w.heap.size w w' := by
  generalize hx : (n : Int) = x
  have HX := Lib.hid hx
  have HN := Lib.hid hn
  clear hx hn
  go_enter Tryz.func17, Tryz.ntmps17
  go_wp2
  refine wp_loop_rounds 9 ?_
  iterate 9 (rw [rounds_succ]; go_wp2)
  rw [leCells n x HX.out]
  have hrow := heap_alloc_new w (.cells (Lib.byteCells (Lib.leBytes 8 n)).toArray 98)
  have hbs := BS.of_row (c := 8) hrow (by rw [leBytes_len]; omega)
  rw [leBytes_len] at hbs
  have hcv := hbs.str (P := Tryz.prog) Tryz.underlying58 Tryz.underlying5 Tryz.underlying9
  have hbel : Below w.heap.size w (w.alloc (.cells (Lib.byteCells (Lib.leBytes 8 n)).toArray 98)) := (Below.refl _ _).alloc (Nat.le_refl _) _
  generalize w.alloc (.cells (Lib.byteCells (Lib.leBytes 8 n)).toArray 98) = w2 at hcv hbel ⊢
  clear hrow hbs
  rw [hcv]
  go_wp2
  go_ret
  exact ⟨rfl, hbel⟩

set_option maxRecDepth 100000 in
set_option maxHeartbeats 1000000 in
theorem headOut_any (a b c d e : Int) (w : World) :
    Calls Tryz.prog 29 #[.agg #[.int .u64 a, .int .u64 b, .int .u64 c, .int .u64 d, .int .u64 e]] w fun e' w' => e' = .returned (.agg #[.int .u64 a, .int .u64 b, .int .u64 c, .int .u64 d, .int .u64 e]) ∧ Below w.heap.size w w' := by
  go_enter Tryz.func29, Tryz.ntmps29
  go_wp2
  refine bodyPost_ret (results_cell_row rfl _ _ (w.heap.size + 1) 24 #[.int .u64 a, .int .u64 b, .int .u64 c, .int .u64 d, .int .u64 e] (0, 0) _ ?h1 ?h2 Tryz.underlying24 rfl ?h5) ?h6 ?h7
  case h1 => rfl
  case h2 => first | exact heap_alloc2_new _ _ _ | simp
  case h5 => kernel_rfl
  case h6 => rfl
  exact ⟨rfl, ((Below.refl _ _).alloc (Nat.le_refl _) _).alloc (by simp) _⟩

set_option maxRecDepth 100000 in
set_option maxHeartbeats 1000000 in
theorem newHead_any (a : Nat) (ha : a < 1000) (w : World) :
    Calls Tryz.prog 8 #[.int .u64 a] w fun e' w' => e' = .returned (.agg #[.int .u64 0, .int .u64 0, .int .u64 51, .int .u64 a, .int .u64 (51 + a : Nat)]) ∧ Below w.heap.size w w' := by
  go_enter Tryz.func8, Tryz.ntmps8
  go_wp2
  refine bodyPost_ret (results_cell_row rfl _ _ (w.heap.size) 24 #[.int .u64 0, .int .u64 0, .int .u64 51, .int .u64 a, .int .u64 (51 + a)] (0, 0) _ ?h1 ?h2 Tryz.underlying24 rfl ?h5) ?h6 ?h7
  case h1 => rfl
  case h2 => first | exact heap_alloc_new _ _ | simp
  case h5 => kernel_rfl
  case h6 => rfl
  exact ⟨rfl, (Below.refl _ _).alloc (Nat.le_refl _) _⟩

theorem ba_cat (a b : List UInt8) : (⟨a.toArray⟩ : ByteArray) ++ ⟨b.toArray⟩ = ⟨(a ++ b).toArray⟩ := by
  apply ByteArray.ext
  rw [ByteArray.data_append]; simp

set_option maxRecDepth 100000 in
set_option maxHeartbeats 1000000 in
theorem headBytes_any (a b c d e : Nat) (ha : a < 18446744073709551616) (hb : b < 18446744073709551616) (hc : c < 18446744073709551616) (hd : d < 18446744073709551616) (he : e < 18446744073709551616) (w : World) :
    Calls Tryz.prog 6 #[.agg #[.int .u64 a, .int .u64 b, .int .u64 c, .int .u64 d, .int .u64 e]] w fun e' w' => e' = .returned (.string ⟨(hdEnc a b c d e).toArray⟩) ∧ Below w.heap.size w w' := by
  have hout : (⟨(hdEnc a b c d e).toArray⟩ : ByteArray) = ⟨(Lib.leBytes 8 a).toArray⟩ ++ ⟨(Lib.leBytes 8 b).toArray⟩ ++ ⟨(Lib.leBytes 8 c).toArray⟩ ++ ⟨(Lib.leBytes 8 d).toArray⟩ ++ ⟨(Lib.leBytes 8 e).toArray⟩ := by
    rw [ba_cat, ba_cat, ba_cat, ba_cat]; rfl
  rw [hout]
  have hW : Below w.heap.size w (w.alloc (.cells #[.int .u64 a, .int .u64 b, .int .u64 c, .int .u64 d, .int .u64 e] 24)) := (Below.refl _ _).alloc (Nat.le_refl _) _
  have hrow := heap_alloc_new w (.cells #[.int .u64 a, .int .u64 b, .int .u64 c, .int .u64 d, .int .u64 e] 24)
  have hg := hrow
  clear hout
  go_enter Tryz.func6, Tryz.ntmps6
  go_wp2_with fail
  generalize w.alloc (.cells #[.int .u64 a, .int .u64 b, .int .u64 c, .int .u64 d, .int .u64 e] 24) = w1 at hW hrow ⊢
  have k0 := fun d' os => cell_in ((cell_of_row' (cur := [_, _, _, _, _]) hrow 0).trans rfl) d' os
  have k1 := fun d' os => cell_in ((cell_of_row' (cur := [_, _, _, _, _]) hrow 1).trans rfl) d' os
  have k2 := fun d' os => cell_in ((cell_of_row' (cur := [_, _, _, _, _]) hrow 2).trans rfl) d' os
  have k3 := fun d' os => cell_in ((cell_of_row' (cur := [_, _, _, _, _]) hrow 3).trans rfl) d' os
  have k4 := fun d' os => cell_in ((cell_of_row' (cur := [_, _, _, _, _]) hrow 4).trans rfl) d' os
  have c0 := fun d' os => Calls.regrown_of (little_any a ha (grow (redrawn w1 d') os))
  have c1 := fun d' os => Calls.regrown_of (little_any b hb (grow (redrawn w1 d') os))
  have c2 := fun d' os => Calls.regrown_of (little_any c hc (grow (redrawn w1 d') os))
  have c3 := fun d' os => Calls.regrown_of (little_any d hd (grow (redrawn w1 d') os))
  have c4 := fun d' os => Calls.regrown_of (little_any e he (grow (redrawn w1 d') os))
  clear hrow hg ha hb hc hd he
  have zz : ∀ n, (⟨(Lib.leBytes 8 n).toArray⟩ : ByteArray).size = 8 := fun n => by show (Lib.leBytes 8 n).toArray.size = 8; simp [leBytes_len]
  have y0 := zz a
  have y1 := zz b
  have y2 := zz c
  have y3 := zz d
  have y4 := zz e
  clear zz
  generalize h0 : (⟨(Lib.leBytes 8 a).toArray⟩ : ByteArray) = S0 at y0 c0
  have H0 := Lib.hid h0
  clear h0
  generalize h1 : (⟨(Lib.leBytes 8 b).toArray⟩ : ByteArray) = S1 at y1 c1
  have H1 := Lib.hid h1
  clear h1
  generalize h2 : (⟨(Lib.leBytes 8 c).toArray⟩ : ByteArray) = S2 at y2 c2
  have H2 := Lib.hid h2
  clear h2
  generalize h3 : (⟨(Lib.leBytes 8 d).toArray⟩ : ByteArray) = S3 at y3 c3
  have H3 := Lib.hid h3
  clear h3
  generalize h4 : (⟨(Lib.leBytes 8 e).toArray⟩ : ByteArray) = S4 at y4 c4
  have H4 := Lib.hid h4
  clear h4
  have y5 : (S0 ++ S1).size = 16 := by rw [ByteArray.size_append]; omega
  have y6 : (S0 ++ S1 ++ S2).size = 24 := by rw [ByteArray.size_append]; omega
  have y7 : (S0 ++ S1 ++ S2 ++ S3).size = 32 := by rw [ByteArray.size_append]; omega
  refine wp_region_quiet_below (by kernel_rfl) (by kernel_rfl) ?_
  repeat (any_goals (first | go_big_quiet_step (first | with_reducible exact c0 _ _ | with_reducible exact c1 _ _ | with_reducible exact c2 _ _ | with_reducible exact c3 _ _ | with_reducible exact c4 _ _) | quiet_step (first | with_reducible exact c0 _ _ | with_reducible exact c1 _ _ | with_reducible exact c2 _ _ | with_reducible exact c3 _ _ | with_reducible exact c4 _ _)))
  refine wpQuiet_nil ?_
  intro _ hw'
  obtain ⟨⟨dq, osq⟩, hw''⟩ := hw'
  subst hw''
  go_wp2
  go_ret
  exact ⟨by rw [H0.out, H1.out, H2.out, H3.out, H4.out]; rfl, below_next hW (below_regrown w1 dq osq)⟩
end Go.Proofs.YtglkonccinpdnaaGreatDoor
/- FnC2Index: the file's bytes, laws.c2Sound. -/
namespace Go.Proofs.YtglkonccinpdnaaGreatDoor
open Go.RowKit

abbrev pragL : List UInt8 := 10 :: pragB
theorem leAt_mid (X Z : List UInt8) (i k v : Nat) (hX : X.length = i + 8 * k) (hv : v < 18446744073709551616) : leAt (X ++ (Lib.leBytes 8 v ++ Z)) i k = v := by
  unfold leAt
  rw [← hX, List.drop_left' rfl, List.take_left' (leBytes_len 8 v)]
  exact Lib.leNat_leBytes 8 v (by omega)
section
variable (a b c d e : Nat) (r : List UInt8)
theorem file_take : (pragL ++ (hdEnc a b c d e ++ r)).take 11 = 10 :: pragB := List.take_left' rfl
theorem file_0 (h : a < 18446744073709551616) : leAt (pragL ++ (hdEnc a b c d e ++ r)) 11 0 = a := by
  rw [show pragL ++ (hdEnc a b c d e ++ r) = pragL ++ (Lib.leBytes 8 a ++ (Lib.leBytes 8 b ++ Lib.leBytes 8 c ++ Lib.leBytes 8 d ++ Lib.leBytes 8 e ++ r)) by simp [hdEnc, List.append_assoc]]
  exact leAt_mid _ _ _ _ _ rfl h
theorem file_2 (h : c < 18446744073709551616) : leAt (pragL ++ (hdEnc a b c d e ++ r)) 11 2 = c := by
  rw [show pragL ++ (hdEnc a b c d e ++ r) = (pragL ++ Lib.leBytes 8 a ++ Lib.leBytes 8 b) ++ (Lib.leBytes 8 c ++ (Lib.leBytes 8 d ++ Lib.leBytes 8 e ++ r)) by simp [hdEnc, List.append_assoc]]
  exact leAt_mid _ _ _ _ _ (by simp [leBytes_len]) h
theorem file_3 (h : d < 18446744073709551616) : leAt (pragL ++ (hdEnc a b c d e ++ r)) 11 3 = d := by
  rw [show pragL ++ (hdEnc a b c d e ++ r) = (pragL ++ Lib.leBytes 8 a ++ Lib.leBytes 8 b ++ Lib.leBytes 8 c) ++ (Lib.leBytes 8 d ++ (Lib.leBytes 8 e ++ r)) by simp [hdEnc, List.append_assoc]]
  exact leAt_mid _ _ _ _ _ (by simp [leBytes_len]) h
theorem file_4 (h : e < 18446744073709551616) : leAt (pragL ++ (hdEnc a b c d e ++ r)) 11 4 = e := by
  rw [show pragL ++ (hdEnc a b c d e ++ r) = (pragL ++ Lib.leBytes 8 a ++ Lib.leBytes 8 b ++ Lib.leBytes 8 c ++ Lib.leBytes 8 d) ++ (Lib.leBytes 8 e ++ r) by simp [hdEnc, List.append_assoc]]
  exact leAt_mid _ _ _ _ _ (by simp [leBytes_len]) h
theorem file_ok (h2 : 51 ≤ c) (h3 : c < 9223372036854775808) (h4 : 0 < d) (h5 : d < 9223372036854775808) (h6 : e < 9223372036854775808) : hdOk (pragL ++ (hdEnc a b c d e ++ r)) 11 := by
  unfold hdOk
  rw [file_2 a b c d e r (by omega), file_3 a b c d e r (by omega), file_4 a b c d e r (by omega)]
  refine ⟨?_, h2, h3, h4, h5, h6⟩
  rw [List.length_append, List.length_append, hdEnc_len]
  simp
  omega
end
/-- What such a header is said to be. -/
def SoundH (c d e : Int) : Prop := 51 ≤ c ∧ c < 9223372036854775808 ∧ 0 < d ∧ d < 9223372036854775808 ∧ e < 9223372036854775808

section
variable (a b c d e : Int) (w : World)
set_option maxRecDepth 100000 in
set_option maxHeartbeats 1000000 in
theorem c2Sound_yes (h : SoundH c d e) :
    Calls Tryz.prog 5 #[.agg #[.int .u64 a, .int .u64 b, .int .u64 c, .int .u64 d, .int .u64 e]] w fun e' w' => e' = .returned (.bool true) ∧ Below w.heap.size w w' := by
  obtain ⟨h1, h2, h3, h4, h5⟩ := h
  have hB : Below w.heap.size w (w.alloc (.cells #[.int .u64 a, .int .u64 b, .int .u64 c, .int .u64 d, .int .u64 e] 24)) := (Below.refl _ _).alloc (Nat.le_refl _) _
  have HB := Lib.hid hB
  clear hB
  go_enter Tryz.func5, Tryz.ntmps5
  go_wp2
  go_ret
  exact ⟨rfl, HB.out⟩
set_option maxRecDepth 100000 in
set_option maxHeartbeats 4000000 in
theorem c2Sound_no (h : ¬ SoundH c d e) :
    Calls Tryz.prog 5 #[.agg #[.int .u64 a, .int .u64 b, .int .u64 c, .int .u64 d, .int .u64 e]] w fun e' w' => e' = .returned (.bool false) ∧ Below w.heap.size w w' := by
  have hB : Below w.heap.size w (w.alloc (.cells #[.int .u64 a, .int .u64 b, .int .u64 c, .int .u64 d, .int .u64 e] 24)) := (Below.refl _ _).alloc (Nat.le_refl _) _
  have HB := Lib.hid hB
  have HH := Lib.hid h
  clear hB h
  by_cases h1 : 51 ≤ c
  · by_cases h2 : c < 9223372036854775808
    · by_cases h3 : 0 < d
      · by_cases h4 : d < 9223372036854775808
        · by_cases h5 : e < 9223372036854775808
          · exact absurd ⟨h1, h2, h3, h4, h5⟩ HH.out
          · go_enter Tryz.func5, Tryz.ntmps5
            go_wp2
            go_ret
            exact ⟨rfl, HB.out⟩
        · go_enter Tryz.func5, Tryz.ntmps5
          go_wp2
          go_ret
          exact ⟨rfl, HB.out⟩
      · go_enter Tryz.func5, Tryz.ntmps5
        go_wp2
        go_ret
        exact ⟨rfl, HB.out⟩
    · go_enter Tryz.func5, Tryz.ntmps5
      go_wp2
      go_ret
      exact ⟨rfl, HB.out⟩
  · go_enter Tryz.func5, Tryz.ntmps5
    go_wp2
    go_ret
    exact ⟨rfl, HB.out⟩
end
end Go.Proofs.YtglkonccinpdnaaGreatDoor
/- FnC2Index's walk: the index that is read of a file of version 2 is all from where the header says that it begins. -/
namespace Go.Proofs.YtglkonccinpdnaaGreatDoor
open Go.RowKit

abbrev pragS : ByteArray := ⟨#[10, 161, 103, 118, 101, 114, 115, 105, 111, 110, 2]⟩
abbrev abS : ByteArray := ⟨#[97, 98]⟩
abbrev hdO (a b c d e : Int) : Obj := .cells #[.int .u64 a, .int .u64 b, .int .u64 c, .int .u64 d, .int .u64 e] 24
theorem file_list (a b c d e : Nat) (H bs : ByteArray) (hH : H = ⟨(hdEnc a b c d e).toArray⟩) : (pragS ++ H ++ bs).data.toList = pragL ++ (hdEnc a b c d e ++ bs.data.toList) := by
  rw [ba_append, ba_append, hH, List.append_assoc]
theorem file_size (a b c d e : Nat) (H bs : ByteArray) (hH : H = ⟨(hdEnc a b c d e).toArray⟩) : (pragS ++ H ++ bs).size = 51 + bs.size := by
  rw [← ba_len, file_list a b c d e H bs hH, List.length_append, List.length_append, hdEnc_len, ba_len]
  show 11 + (40 + bs.size) = _
  omega
theorem extract_drop (s : ByteArray) (x : Nat) : s.extract x s.size = ⟨(s.data.toList.drop x).toArray⟩ := by
  apply ByteArray.ext
  rw [ByteArray.data_extract]
  apply Array.toList_inj.1
  simp only [Array.toList_extract, List.extract_eq_take_drop]
  exact List.take_of_length_le (by rw [List.length_drop, ba_len]; exact Nat.le_refl _)

/-- impl.RdIndex of such a file. -/
theorem rdIndexF_no (a b c d : Nat) (H bs : ByteArray) (hH : H = ⟨(hdEnc a b c d 0).toArray⟩) (hs : SoundH c d 0) (hn : bs.size ≤ 4096) (w : World) (e0 e1 : Addr) (t2 t3 : TypeId) (p2 p3 : Value) (he : UvErrs w.heap.size w e0 e1 (.iface t2 p2) (.iface t3 p3)) :
    Calls Tryz.prog 7 #[.string (pragS ++ H ++ bs), optsIn] w fun e w' => e = .returned (.tuple #[.string ⟨#[]⟩, .bool false, .bool true]) ∧ Below w.heap.size w w' := by
  have hl := file_list a b c d 0 H bs hH
  have hz := file_size a b c d 0 H bs hH
  obtain ⟨h1, h2, h3, h4, h5⟩ := hs
  exact rdIndex_no _ (by omega) (by rw [hl]; exact file_take ..) (by rw [hl]; exact file_ok a b c d 0 _ (by omega) (by omega) (by omega) (by omega) (by omega)) (by rw [hl]; exact file_4 a b c d 0 _ (by omega)) w e0 e1 t2 t3 p2 p3 he
theorem rdIndexF_yes (a b c d x : Nat) (H bs : ByteArray) (hH : H = ⟨(hdEnc a b c d x).toArray⟩) (hs : SoundH c d x) (hn : bs.size ≤ 4096) (h0 : 0 < x) (hx : x ≤ 51 + bs.size) (w : World) (e0 e1 : Addr) (t2 t3 : TypeId) (p2 p3 : Value) (he : UvErrs w.heap.size w e0 e1 (.iface t2 p2) (.iface t3 p3)) :
    Calls Tryz.prog 7 #[.string (pragS ++ H ++ bs), optsIn] w fun e w' => e = .returned (.tuple #[.string ((pragS ++ H ++ bs).extract x (pragS ++ H ++ bs).size), .bool true, .bool true]) ∧ Below w.heap.size w w' := by
  have hl := file_list a b c d x H bs hH
  have hz := file_size a b c d x H bs hH
  obtain ⟨h1, h2, h3, h4, h5⟩ := hs
  exact rdIndex_yes _ (by omega) (by rw [hl]; exact file_take ..) (by rw [hl]; exact file_ok a b c d x _ (by omega) (by omega) (by omega) (by omega) (by omega)) x (by rw [hl]; exact file_4 a b c d x _ (by omega)) h0 (by omega) _ (extract_drop _ _) w e0 e1 t2 t3 p2 p3 he

set_option maxRecDepth 100000 in
set_option maxHeartbeats 4000000 in
theorem law_C2Index (a b c d e : Nat) (ha : a < 18446744073709551616) (hb : b < 18446744073709551616) (hc : c < 18446744073709551616) (hd : d < 18446744073709551616) (he : e < 18446744073709551616) (bs : ByteArray) (hm : bs.size ≤ 9223372036854775807) (w : World) (e0 e1 : Addr) (t2 t3 : TypeId) (p2 p3 : Value) (hu : UvErrs w.heap.size w e0 e1 (.iface t2 p2) (.iface t3 p3)) :
    Calls Tryz.prog 3 #[.agg #[.int .u64 a, .int .u64 b, .int .u64 c, .int .u64 d, .int .u64 e], .string bs] w fun e' w' => e' = .returned (.bool true) ∧ Below w.heap.size w w' := by
  have B1 : Below w.heap.size w (w.alloc (hdO a b c d e)) := (Below.refl _ _).alloc (Nat.le_refl _) _
  have r1 := heap_alloc_new w (hdO a b c d e)
  have HB1 := Lib.hid B1
  have c0 := cell_of_row' (cur := [_, _, _, _, _]) r1 0
  have c1 := cell_of_row' (cur := [_, _, _, _, _]) r1 1
  have c2 := cell_of_row' (cur := [_, _, _, _, _]) r1 2
  have c3 := cell_of_row' (cur := [_, _, _, _, _]) r1 3
  have c4 := cell_of_row' (cur := [_, _, _, _, _]) r1 4
  have HU := Lib.hid hu
  clear hu
  by_cases hf : 2147483647 < bs.size
  · clear c0 c1 c2 c3 c4 r1 B1
    go_enter Tryz.func3, Tryz.ntmps3
    go_wp2
    go_ret
    exact ⟨rfl, HB1.out⟩
  by_cases hg : 4096 < bs.size
  · clear c0 c1 c2 c3 c4 r1 B1
    go_enter Tryz.func3, Tryz.ntmps3
    go_wp2
    go_ret
    exact ⟨rfl, HB1.out⟩
  by_cases hs : SoundH c d e
  · have HS := Lib.hid hs
    have HC := fun W => Lib.hid (c2Sound_yes a b c d e W hs)
    by_cases hx : 51 + bs.size < e
    · clear r1 B1 hs
      go_enter Tryz.func3, Tryz.ntmps3
      go_wp2_with fail
      refine (HC _).out.mono ?_
      rintro e' w1 ⟨rfl, hb1⟩
      have k4 := below_cell hb1 c4
      have HB2 := Lib.hid (below_next HB1.out hb1)
      clear hb1 c0 c1 c2 c3 c4 HC
      go_wp2
      go_ret
      exact ⟨rfl, HB2.out⟩
    · obtain ⟨H, hH⟩ : ∃ H : ByteArray, H = ⟨(hdEnc a b c d e).toArray⟩ := ⟨_, rfl⟩
      have hsz : H.size = 40 := by rw [hH]; show (hdEnc a b c d e).toArray.size = 40; rw [List.size_toArray, hdEnc_len]
      have HW := fun W => Lib.hid (headBytes_any a b c d e ha hb hc hd he W)
      rw [← hH] at HW
      have hps : (pragS ++ H).size = 51 := by rw [ByteArray.size_append, hsz]; rfl
      have y1 : ¬ 9223372036854775807 < pragS.size + H.size := by rw [hsz]; show ¬ 9223372036854775807 < 11 + 40; omega
      have y2 : ¬ 9223372036854775807 < (pragS ++ H).size + bs.size := by rw [hps]; omega
      have HHH := Lib.hid hH
      have hxe : ¬ (51 + (bs.size : Int) < e) := by omega
      obtain ⟨H1, hH1⟩ : ∃ H : ByteArray, H = ⟨(hdEnc 0 0 51 1 52).toArray⟩ := ⟨_, rfl⟩
      have hsz1 : H1.size = 40 := by rw [hH1]; show (hdEnc 0 0 51 1 52).toArray.size = 40; rw [List.size_toArray, hdEnc_len]
      have N1 : ∀ W, Hid (Calls Tryz.prog 8 #[.int .u64 1] W fun e' w' => e' = .returned (.agg #[.int .u64 0, .int .u64 0, .int .u64 51, .int .u64 1, .int .u64 52]) ∧ Below W.heap.size W w') := fun W => Lib.hid (newHead_any 1 (by omega) W)
      have N2 : ∀ W, Hid (Calls Tryz.prog 6 #[.agg #[.int .u64 0, .int .u64 0, .int .u64 51, .int .u64 1, .int .u64 52]] W fun e' w' => e' = .returned (.string H1) ∧ Below W.heap.size W w') := fun W => Lib.hid (by rw [hH1]; exact headBytes_any 0 0 51 1 52 (by decide) (by decide) (by decide) (by decide) (by decide) W)
      have N3 := fun W h => Lib.hid (rdIndexF_yes 0 0 51 1 52 H1 abS hH1 ⟨by decide, by decide, by decide, by decide, by decide⟩ (by decide) (by decide) (by decide) W e0 e1 t2 t3 p2 p3 h)
      have hps1 : (pragS ++ H1).size = 51 := by rw [ByteArray.size_append, hsz1]; rfl
      have y3 : ¬ 9223372036854775807 < pragS.size + H1.size := by rw [hsz1]; show ¬ 9223372036854775807 < 11 + 40; omega
      have y4 : ¬ 9223372036854775807 < (pragS ++ H1).size + abS.size := by rw [hps1]; show ¬ 9223372036854775807 < 51 + 2; omega
      clear hH1
      by_cases hz : e = 0
      · subst hz
        have HI := fun W h => Lib.hid (rdIndexF_no a b c d H bs HHH.out HS.out (by omega) W e0 e1 t2 t3 p2 p3 h)
        clear r1 B1 hs hH ha hb hc hd he
        go_enter Tryz.func3, Tryz.ntmps3
        go_wp2_with fail
        refine (HC _).out.mono ?_
        rintro e' w1 ⟨rfl, hb1⟩
        have k0 := below_cell hb1 c0
        have k1 := below_cell hb1 c1
        have k2 := below_cell hb1 c2
        have k3 := below_cell hb1 c3
        have k4 := below_cell hb1 c4
        have hB2 := below_next HB1.out hb1
        have HB2 := Lib.hid hB2
        clear hb1 hB2 c0 c1 c2 c3 c4 HC
        go_wp2_with fail
        refine (HW _).out.mono ?_
        rintro e' w2 ⟨rfl, hb2⟩
        have k4' := below_cell hb2 k4
        have HB3 := Lib.hid (below_next HB2.out hb2)
        clear hb2 k0 k1 k2 k3 k4
        go_wp2_with fail
        refine (HI _ ((HU.out.below HB3.out).mono HB3.out.size)).out.mono ?_
        rintro e' w3 ⟨rfl, hb3⟩
        have k4 := below_cell hb3 k4'
        have HB4 := Lib.hid (below_next HB3.out hb3)
        clear hb3 k4' HI
        go_wp2_with fail
        refine (N1 _).out.mono ?_
        rintro e' w4 ⟨rfl, hb4⟩
        have k4' := below_cell hb4 k4
        have HB5 := Lib.hid (below_next HB4.out hb4)
        clear hb4 k4 N1
        go_wp2_with fail
        refine (N2 _).out.mono ?_
        rintro e' w5 ⟨rfl, hb5⟩
        have HB6 := Lib.hid (below_next HB5.out hb5)
        clear hb5 k4' N2
        go_wp2_with fail
        refine (N3 _ ((HU.out.below HB6.out).mono HB6.out.size)).out.mono ?_
        rintro e' w6 ⟨rfl, hb6⟩
        have HB7 := Lib.hid (below_next HB6.out hb6)
        clear hb6 N3
        go_wp2
        go_ret
        exact ⟨rfl, HB7.out⟩
      · have HI := fun W h => Lib.hid (rdIndexF_yes a b c d e H bs HHH.out HS.out (by omega) (by omega) (by omega) W e0 e1 t2 t3 p2 p3 h)
        have hz1 : ((e : Int) == 0) = false := by rw [beq_eq_false_iff_ne]; omega
        have hz2 : (pragS ++ H ++ bs).size = 51 + bs.size := file_size a b c d e H bs HHH.out
        have hz3 : (e : Int) ≤ 51 + (bs.size : Int) := by omega
        have hz4 : (0 : Int) ≤ (e : Int) := by omega
        clear r1 B1 hs hH ha hb hc hd he N1 N2 N3
        go_enter Tryz.func3, Tryz.ntmps3
        go_wp2_with fail
        refine (HC _).out.mono ?_
        rintro e' w1 ⟨rfl, hb1⟩
        have k0 := below_cell hb1 c0
        have k1 := below_cell hb1 c1
        have k2 := below_cell hb1 c2
        have k3 := below_cell hb1 c3
        have k4 := below_cell hb1 c4
        have hB2 := below_next HB1.out hb1
        have HB2 := Lib.hid hB2
        clear hb1 hB2 c0 c1 c2 c3 c4 HC
        go_wp2_with fail
        refine (HW _).out.mono ?_
        rintro e' w2 ⟨rfl, hb2⟩
        have k4' := below_cell hb2 k4
        have HB3 := Lib.hid (below_next HB2.out hb2)
        clear hb2 k0 k1 k2 k3 k4
        go_wp2_with fail
        refine (HI _ ((HU.out.below HB3.out).mono HB3.out.size)).out.mono ?_
        rintro e' w3 ⟨rfl, hb3⟩
        have k4 := below_cell hb3 k4'
        have HB4 := Lib.hid (below_next HB3.out hb3)
        clear hb3 k4' HI
        go_wp2
        go_ret
        exact ⟨rfl, HB4.out⟩
  · have HC := fun W => Lib.hid (c2Sound_no a b c d e W hs)
    clear r1 B1 hs
    go_enter Tryz.func3, Tryz.ntmps3
    go_wp2_with fail
    refine (HC _).out.mono ?_
    rintro e' w1 ⟨rfl, hb1⟩
    have HB2 := Lib.hid (below_next HB1.out hb1)
    clear hb1 c0 c1 c2 c3 c4 HC
    go_wp2
    go_ret
    exact ⟨rfl, HB2.out⟩
end Go.Proofs.YtglkonccinpdnaaGreatDoor
/- What a row's list of sentinels gives the walks: each variable's cell holds a pointer. -/
namespace Go.Proofs.YtglkonccinpdnaaGreatDoor
open Go.RowKit Go.ChangeShapes

theorem cellsErr : Tryz.prog.cellsOf 157 = 1 := by kernel_rfl
theorem cellsStr : Tryz.prog.cellsOf 9 = 1 := by kernel_rfl
theorem starErr : "*" ++ "errors.errorString" = "*errors.errorString" := by decide
/-- The one row of that name. -/
theorem rowErr (u : TypeId) (h : Tryz.prog.typeName? 3 u = some "*errors.errorString") : u = 155 :=
  typeName_ptr_named (nm := "errors.errorString") (by rw [starErr]; kernel_rfl) (by kernel_rfl) (by decide) u (by rw [starErr]; exact h)

/-- The head of the list: the variable's cell. -/
theorem sent_cell {n : String} {text : List UInt8} {r : List (String × DataW Unit)} {W : World} {g : Nat}
    (h : laidMet Tryz.prog ((n, .iface "*errors.errorString" (.ptr (.agg [.lit (.string text)]))) :: r) W) (hg : Tryz.prog.globalNamed n = some g) (ht : (Tryz.prog.globals[g]?).map (·.type) = some 55) :
    ∃ a : Addr, W.cell? ⟨g, 0, none⟩ = some (.iface 155 (.pointer (some a))) := by
  obtain ⟨a, s, hv, _, _, _⟩ := laid_sentinel h hg ht Tryz.underlying55 rowErr Tryz.underlying155 Tryz.underlying157 rfl rfl Tryz.underlying9 cellsErr cellsStr
  exact ⟨a, by have h0 := World.var?_cell hg hv 0; simpa using h0⟩

theorem gOver : Tryz.prog.globalNamed "pub-droshky/pub/varint.ErrOverflow" = some 6 := by kernel_rfl
theorem gOverT : (Tryz.prog.globals[6]?).map (·.type) = some 55 := by kernel_rfl
theorem gUnder : Tryz.prog.globalNamed "pub-droshky/pub/varint.ErrUnderflow" = some 8 := by kernel_rfl
theorem gUnderT : (Tryz.prog.globals[8]?).map (·.type) = some 55 := by kernel_rfl
theorem gNotMin : Tryz.prog.globalNamed "pub-droshky/pub/varint.ErrNotMinimal" = some 7 := by kernel_rfl
theorem gNotMinT : (Tryz.prog.globals[7]?).map (·.type) = some 55 := by kernel_rfl
theorem gShort : Tryz.prog.globalNamed "pub-droshky/pub/multihash.ErrTooShort" = some 11 := by kernel_rfl
theorem gShortT : (Tryz.prog.globals[11]?).map (·.type) = some 55 := by kernel_rfl
end Go.Proofs.YtglkonccinpdnaaGreatDoor
/- What a row's list of sentinels gives walks that compare errors: each is an object of its own, known by its text. -/
namespace Go.Proofs.YtglkonccinpdnaaGreatDoor
open Go.RowKit Go.ChangeShapes

theorem laid_sentinel_row {P : Program} {n nm : String} {text : List UInt8} {r : List (String × DataW Unit)} {W : World} {g : Nat} {ti tp te ts : TypeId} {ms : Array (String × TypeId)} {f : Field}
    (h : laidMet P ((n, .iface nm (.ptr (.agg [.lit (.string text)]))) :: r) W)
    (hg : P.globalNamed n = some g) (ht : (P.globals[g]?).map (·.type) = some ti) (hi : P.underlying ti = some (.interface ms)) (hrow : ∀ u, P.typeName? 3 u = some nm → u = tp)
    (hp : P.underlying tp = some (.pointer te)) (he : P.underlying te = some (.struct #[f])) (hft : f.type = ts) (hfo : f.offset = 0) (hs : P.underlying ts = some .string) (hc : P.cellsOf te = 1) (hcs : P.cellsOf ts = 1) :
    ∃ (a : Addr) (s : ByteArray), W.var? P n = some #[.iface tp (.pointer (some a))] ∧ W.cell? a = some (.string s) ∧ s.data.toList = text ∧ ∃ c t, W.heap[a.block]? = some (.cells c t (0, 0)) := by
  obtain ⟨ps, ⟨g0, t0, cs0, f0, p0, q0, hg0, ht0, hv0, hd0, _, e0⟩, _, hrows⟩ := h
  obtain rfl := Option.some.inj (hg.symm.trans hg0)
  obtain rfl := Option.some.inj (ht.symm.trans ht0)
  subst e0
  obtain ⟨l0⟩ := cs0
  have ok0 : ∀ u v, l0 = [.iface u v] → Value.okWide P W .any 0 u v := fun u v e => by
    subst e
    exact (hrows g 0 (by simp [MemPlace.row])).2 u v (by simpa using World.var?_cell hg0 hv0 0)
  obtain ⟨a0, s0, rfl, hc0, hs0, hz0, hp0⟩ := errorString_of_trod hi hrow hp he hft hfo hs hc hcs hd0 ok0
  exact ⟨a0, s0, hv0, hc0, hs0, (hrows a0.block a0.off (by rw [hp0]; simp [MemPlace.row])).1⟩

/-- The head of the list: the variable's cell, the object, its text. -/
theorem sent_err {n : String} {text : List UInt8} {r : List (String × DataW Unit)} {W : World} {g : Nat}
    (h : laidMet Tryz.prog ((n, .iface "*errors.errorString" (.ptr (.agg [.lit (.string text)]))) :: r) W) (hg : Tryz.prog.globalNamed n = some g) (ht : (Tryz.prog.globals[g]?).map (·.type) = some 55) :
    ∃ a : Addr, ErrAt W.heap.size W g a ∧ ∃ s, W.cell? a = some (.string s) ∧ s.data.toList = text := by
  obtain ⟨a, s, hv, hc, hs, cs, t, hr⟩ := laid_sentinel_row h hg ht Tryz.underlying55 rowErr Tryz.underlying155 Tryz.underlying157 rfl rfl Tryz.underlying9 cellsErr cellsStr
  have h0 : W.cell? ⟨g, 0, none⟩ = some (errV a) := by have h0 := World.var?_cell hg hv 0; simpa using h0
  exact ⟨a, ⟨block_of_cell h0, block_of_row hr, h0, cs, t, hr⟩, s, hc, hs⟩

theorem sent_ne {W : World} {a b : Addr} {s t : ByteArray} {x y : List UInt8} (ha : W.cell? a = some (.string s)) (hb : W.cell? b = some (.string t)) (hs : s.data.toList = x) (ht : t.data.toList = y) (h : x ≠ y) : a ≠ b := by
  rintro rfl
  rw [ha] at hb
  injection hb with hb
  injection hb with hb
  subst hb
  exact h (hs.symm.trans ht)

theorem gEOF : Tryz.prog.globalNamed "io.EOF" = some 0 := by kernel_rfl
theorem gEOFT : (Tryz.prog.globals[0]?).map (·.type) = some 55 := by kernel_rfl
theorem gUnexp : Tryz.prog.globalNamed "io.ErrUnexpectedEOF" = some 5 := by kernel_rfl
theorem gUnexpT : (Tryz.prog.globals[5]?).map (·.type) = some 55 := by kernel_rfl
theorem gShortBuf : Tryz.prog.globalNamed "io.ErrShortBuffer" = some 9 := by kernel_rfl
theorem gShortBufT : (Tryz.prog.globals[9]?).map (·.type) = some 55 := by kernel_rfl
end Go.Proofs.YtglkonccinpdnaaGreatDoor
