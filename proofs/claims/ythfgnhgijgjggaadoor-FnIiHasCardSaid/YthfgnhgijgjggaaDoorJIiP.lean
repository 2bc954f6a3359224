/- Contracts, joined (IiP). -/
import Derived.Test.YthfgnhgijgjggaaDoorJIiA
/- FnIiHas' walk: entries and an identifier of which it speaks. -/
namespace Go.Proofs.YthfgnhgijgjggaaDoor
open Go.RowKit

attribute [local go_sem] gives givesUpon evalOf look wants asBool

set_option maxRecDepth 100000 in
set_option maxHeartbeats 16000000 in
theorem law_IiHas (v : Value) (es : List EntD) (c : CidD) (w : World) (hv : ES w v es) (hl : es.length ≤ 9223372036854775807) (hu : UvS w) :
    Calls Tryd.prog 4 #[v, cid4 c] w fun e w' => e = .returned (.bool true) ∧ Below w.heap.size w w' := by
  have hsc := fun W => stCid_b c W
  unfold cid4 at *
  have hA : Below w.heap.size w (w.alloc (cidB c)) := (Below.refl _ _).alloc (Nat.le_refl _) _
  have HR := Lib.hid (heap_alloc_new w (cidB c))
  have HA := Lib.hid hA
  have H7 := Lib.hid (fits7_b v es (w.alloc (cidB c)) (hv.below hA) hl)
  have H1 := Lib.hid (fun W => fits1_b c.ver c.codec c.code ⟨c.dig.toArray⟩ W)
  have HSE := Lib.hid (fun W (h : Below w.heap.size w W) => stEntries_b v es W (hv.below h) hl)
  have HSC := Lib.hid hsc
  have HU := Lib.hid hu
  have HV := Lib.hid hv
  clear hA hu hv hl hsc
  go_enter Tryd.func4, Tryd.ntmps4
  go_wp2_with fail
  refine H7.out.mono ?_
  rintro e w1 ⟨⟨b1, rfl⟩, hb1⟩
  have r1 := row_below hb1 (block_of_row HR.out) HR.out
  obtain ⟨k0, k1, k2, k3⟩ := row4 r1
  have HB1 := Lib.hid (below_next HA.out hb1)
  have R1 := Lib.hid r1
  clear hb1 r1 H7
  rcases b1 with _ | _
  · go_wp2_with fail
    go_ret
    exact ⟨rfl, HB1.out⟩
  go_wp2_with fail
  refine (H1.out _).mono ?_
  rintro e w2 ⟨⟨b2, rfl⟩, hb2⟩
  have HB2 := Lib.hid (below_next HB1.out hb2)
  have r2 := row_below hb2 (block_of_row R1.out) R1.out
  have HSE2 := Lib.hid (HSE.out w2 HB2.out)
  have R2 := Lib.hid r2
  clear hb2 r2 H1 k0 k1 k2 k3 HB1 R1 HSE
  rcases b2 with _ | _
  · go_wp2_with fail
    go_ret
    exact ⟨rfl, HB2.out⟩
  go_wp2_with fail
  refine HSE2.out.mono ?_
  rintro e w3 ⟨h3, hb3⟩
  have r3 := row_below hb3 (block_of_row R2.out) R2.out
  obtain ⟨k0, k1, k2, k3⟩ := row4 r3
  have HB3 := Lib.hid (below_next HB2.out hb3)
  have R3 := Lib.hid r3
  clear hb3 r3 HSE2 HB2 R2
  rcases h3 with ⟨hes, rfl⟩ | ⟨_, rfl⟩
  rotate_left
  · go_wp2_with fail
    go_ret
    exact ⟨rfl, HB3.out⟩
  have HES := Lib.hid hes
  clear hes
  go_wp2_with fail
  refine (HSC.out _).mono ?_
  rintro e w4 ⟨h4, hb4⟩
  have HB4 := Lib.hid (below_next HB3.out hb4)
  have R4 := Lib.hid (row_below hb4 (block_of_row R3.out) R3.out)
  clear hb4 k0 k1 k2 k3 HSC HB3 R3
  rcases h4 with ⟨hc, rfl⟩ | ⟨_, rfl⟩
  rotate_left
  · go_wp2_with fail
    go_ret
    exact ⟨rfl, HB4.out⟩
  have HC := Lib.hid hc
  clear hc
  obtain ⟨A, cc, rfl, hcap, hcells⟩ := id HV.out
  have HCE := Lib.hid hcells
  obtain ⟨n, hN⟩ : ∃ n, n = es.length := ⟨_, rfl⟩
  have hn : n ≤ 60 := by rw [hN]; exact HES.out.1
  rw [← hN]
  have HN := Lib.hid hN
  clear hcells hcap hN
  go_wp2
  go_loopw [5, 6, 31] (fun s5 s6 i wr => ∃ (x y : Bool) (k : Nat), k ≤ n ∧ s5 = .bool x ∧ s6 = .bool y ∧ i = .int .i64 k ∧ Hid (x = true ↔ hasC (es.take k) c) ∧ Hid (y = true ↔ hasM (es.take k) c) ∧ Hid (Below w4.heap.size w4 wr)) (fun _ _ i _ => n - (intOf i).toNat)
  case atStart => exact ⟨false, false, 0, Nat.zero_le _, rfl, rfl, rfl, Lib.hid (by simp [hasC]), Lib.hid (by simp [hasM]), Lib.hid (Below.refl _ _)⟩
  case round =>
    obtain ⟨x, y, k, hk, rfl, rfl, rfl, hx, hy, hbr⟩ := hrel
    by_cases hlt : k < n
    · obtain ⟨b, o, rfl, hcl⟩ := HCE.out (by rw [← HN.out]; omega)
      have hks : k < es.length := by rw [← HN.out]; exact hlt
      obtain ⟨z, hsv⟩ : ∃ z, es[k]? = some z := ⟨_, List.getElem?_eq_getElem hks⟩
      obtain ⟨q0, q1, q2, q3, q4⟩ := hcl k z hsv
      have hbw := below_next HB4.out hbr.out
      have c0 := below_cell hbw q0
      have c1 := below_cell hbw q1
      have c2 := below_cell hbw q2
      have c3 := below_cell hbw q3
      have c4 := below_cell hbw q4
      have HXN := Lib.hid (hasC_snoc hsv c)
      have HYN := Lib.hid (hasM_snoc hsv c)
      have hgz := HES.out.2 z (List.mem_of_getElem? hsv)
      obtain ⟨wd, hwd⟩ : ∃ wd, wd = (wr.alloc (entB z)).drew := ⟨_, rfl⟩
      have hb0 : Below wr.heap.size wr wd := by rw [hwd]; exact ((Below.refl _ wr).alloc (Nat.le_refl _) _).trans (below_drewN _ _ 1)
      have re : wd.heap[wr.heap.size]? = some (entB z) := by rw [hwd]; exact heap_alloc_new wr _
      have rc := row_below hb0 (block_of_row (row_below hbr.out (block_of_row R4.out) R4.out)) (row_below hbr.out (block_of_row R4.out) R4.out)
      have e0 : ∀ W, Below wd.heap.size wd W → W.cell? ⟨wr.heap.size, 0, none⟩ = some (.int .u64 z.cid.ver) := fun W hW => cell_of_row' (cur := [_, _, _, _, _]) (row_below hW (block_of_row re) re) 0
      have e1 : ∀ W, Below wd.heap.size wd W → W.cell? ⟨wr.heap.size, 1, none⟩ = some (.int .u64 z.cid.codec) := fun W hW => cell_of_row' (cur := [_, _, _, _, _]) (row_below hW (block_of_row re) re) 1
      have e2 : ∀ W, Below wd.heap.size wd W → W.cell? ⟨wr.heap.size, 2, none⟩ = some (.int .u64 z.cid.code) := fun W hW => cell_of_row' (cur := [_, _, _, _, _]) (row_below hW (block_of_row re) re) 2
      have e3 : ∀ W, Below wd.heap.size wd W → W.cell? ⟨wr.heap.size, 3, none⟩ = some (.string ⟨z.cid.dig.toArray⟩) := fun W hW => cell_of_row' (cur := [_, _, _, _, _]) (row_below hW (block_of_row re) re) 3
      have d0 : ∀ W, Below wd.heap.size wd W → W.cell? ⟨w.heap.size, 0, none⟩ = some (.int .u64 c.ver) := fun W hW => cell_of_row' (cur := [_, _, _, _]) (row_below hW (block_of_row rc) rc) 0
      have d1 : ∀ W, Below wd.heap.size wd W → W.cell? ⟨w.heap.size, 1, none⟩ = some (.int .u64 c.codec) := fun W hW => cell_of_row' (cur := [_, _, _, _]) (row_below hW (block_of_row rc) rc) 1
      have d2 : ∀ W, Below wd.heap.size wd W → W.cell? ⟨w.heap.size, 2, none⟩ = some (.int .u64 c.code) := fun W hW => cell_of_row' (cur := [_, _, _, _]) (row_below hW (block_of_row rc) rc) 2
      have d3 : ∀ W, Below wd.heap.size wd W → W.cell? ⟨w.heap.size, 3, none⟩ = some (.string ⟨c.dig.toArray⟩) := fun W hW => cell_of_row' (cur := [_, _, _, _]) (row_below hW (block_of_row rc) rc) 3
      obtain ⟨ce, hce, hcei⟩ : ∃ ce : Bool, (∀ W, (binOp .eql 26 (.agg #[.int .u64 z.cid.ver, .int .u64 z.cid.codec, .int .u64 z.cid.code, .string ⟨z.cid.dig.toArray⟩]) (.agg #[.int .u64 c.ver, .int .u64 c.codec, .int .u64 c.code, .string ⟨c.dig.toArray⟩])).run Tryd.prog W = .ok (.bool ce) W) ∧ (ce = true ↔ z.cid = c) := by
        by_cases h : z.cid = c
        · exact ⟨true, fun W => by rw [h]; exact eqCid_same c W, ⟨fun _ => h, fun _ => rfl⟩⟩
        · exact ⟨false, fun W => eqCid_other z.cid c h W, ⟨fun h2 => (nomatch h2), fun h2 => absurd h2 h⟩⟩
      obtain ⟨sh, hsh⟩ : ∃ sh : Bool, (sh = true ↔ z.cid.code = c.code ∧ z.cid.dig = c.dig) := by
        by_cases h : z.cid.code = c.code ∧ z.cid.dig = c.dig
        · exact ⟨true, ⟨fun _ => h, fun _ => rfl⟩⟩
        · exact ⟨false, ⟨fun h2 => (nomatch h2), fun h2 => absurd h2 h⟩⟩
      have HSH := fun W => Lib.hid (sameHash_b z.cid c sh hsh W)
      unfold cid4 at HSH
      have hX : Hid ((x || ce) = true ↔ hasC (es.take (k + 1)) c) := Lib.hid (by rw [Bool.or_eq_true, HXN.out, hx.out, hcei])
      have hY : Hid ((y || sh) = true ↔ hasM (es.take (k + 1)) c) := Lib.hid (by rw [Bool.or_eq_true, HYN.out, hy.out, hsh])
      have HB0 := Lib.hid hb0
      have HBR := hbr
      clear hcl hks hsv q0 q1 q2 q3 q4 hbw HXN HYN hgz hb0 re rc hcei hsh hx hy hbr
      unfold entB at hwd
      generalize (⟨z.cid.dig.toArray⟩ : ByteArray) = zd at *
      generalize (⟨c.dig.toArray⟩ : ByteArray) = cd at *
      have hbq := Lib.hid (fun W (h : Below wd.heap.size wd W) => (HBR.out.trans (HB0.out.mono HBR.out.size)).trans (h.mono (HBR.out.trans (HB0.out.mono HBR.out.size)).size))
      cases x <;> cases y
      all_goals
        go_wp2_with fail
        refine wp_region_belowW [some 35, some 36, some 37, some 38, some 39, some 40, some 41, some 42, some 43, some 44, some 45, some 46, some 47, some 48, some 5, some 6] (by kernel_rfl) (by kernel_rfl) (by kernel_rfl) (by kernel_rfl) ?_
        rw [← hwd]
        repeat first
          | (refine EachW.fixed ?_ (fun u W hle hk hfr => ?_) ?_
             rotate_left
             · (clear hfr
                have i0 := e0 W hle
                have i1 := e1 W hle
                have i2 := e2 W hle
                have i3 := e3 W hle
                have j0 := d0 W hle
                have j1 := d1 W hle
                have j2 := d2 W hle
                have j3 := d3 W hle
                simp [knows, factAt, Region.binds] at hk
                go_simp
                exact rfl))
          | (refine EachW.fixed ?_ (fun u W hle hk hfr => ?_) ?_
             rotate_left
             · (have hq1 := hfr 14 5 (by kernel_rfl) rfl
                change u 14 = Value.bool _ at hq1
                clear hfr
                have i0 := e0 W hle
                have i1 := e1 W hle
                have i2 := e2 W hle
                have i3 := e3 W hle
                have j0 := d0 W hle
                have j1 := d1 W hle
                have j2 := d2 W hle
                have j3 := d3 W hle
                simp [knows, factAt, Region.binds] at hk
                go_simp
                exact rfl))
          | (refine EachW.fixed ?_ (fun u W hle hk hfr => ?_) ?_
             rotate_left
             · (have hq2 := hfr 15 6 (by kernel_rfl) rfl
                change u 15 = Value.bool _ at hq2
                clear hfr
                have i0 := e0 W hle
                have i1 := e1 W hle
                have i2 := e2 W hle
                have i3 := e3 W hle
                have j0 := d0 W hle
                have j1 := d1 W hle
                have j2 := d2 W hle
                have j3 := d3 W hle
                simp [knows, factAt, Region.binds] at hk
                go_simp
                exact rfl))
          | (refine EachW.made (fun x _ => x = .bool sh) (fun _ _ _ _ h => h) (fun u W hle hk hfr => ?_) ?_
             · (simp [knows, factAt, Region.binds] at hk
                go_simp
                exact (HSH W).out))
          | (refine EachW.skipped (fun u W hle hk => ?_) ?_
             · (simp [knows, factAt, Region.binds] at hk
                go_simp))
        intro u W hle hf
        simp [allFacts] at hf
        simp only [fillD, hf]
        have HN9 := Lib.hid (hbq.out _ hle)
        clear hf hle e0 e1 e2 e3 d0 d1 d2 d3 hce HSH hwd
        go_simp
        go_wp2
        go_roundw
        case rel => exact ⟨_, _, k + 1, by omega, rfl, rfl, by go_num, hX, hY, HN9⟩
        case measure => simp [intOf]; omega
    · obtain rfl : k = n := by omega
      have hall : es.take k = es := List.take_of_length_le (by rw [HN.out]; exact Nat.le_refl _)
      have HX : Hid (x = true ↔ hasC es c) := Lib.hid (by have := hx.out; rwa [hall] at this)
      have HY : Hid (y = true ↔ hasM es c) := Lib.hid (by have := hy.out; rwa [hall] at this)
      have hbw := below_next HB4.out hbr.out
      have hvr : ES wr (.slice A k cc) es := by have := HV.out.below hbw; rwa [← HN.out] at this
      have HI := Lib.hid (iiHas (.slice A k cc) es c wr hvr HES.out.2 (by rw [← HN.out]; omega) HC.out (HU.out.below hbw) x y HX.out HY.out)
      unfold cid4 at HI
      have rc := row_below hbr.out (block_of_row R4.out) R4.out
      obtain ⟨k0, k1, k2, k3⟩ := row4 rc
      have HRC := Lib.hid rc
      have HBW := Lib.hid hbw
      have HVR := Lib.hid hvr
      clear hall hx hy hbw hvr rc hbr R4 HB4 HCE
      go_wp2_with fail
      refine HI.out.mono ?_
      rintro e w5 ⟨rfl, hb5⟩
      have r5 := row_below hb5 (block_of_row HRC.out) HRC.out
      obtain ⟨c0, c1, c2, c3⟩ := row4 r5
      have HB5 := Lib.hid (below_next HBW.out hb5)
      have HV5 := Lib.hid (HVR.out.below hb5)
      have R5 := Lib.hid r5
      have hbs : w.heap.size < w5.heap.size := block_of_row r5
      clear k0 k1 k2 k3 hb5 r5 HI HVR HBW HRC
      go_wp2_with fail
      have hes5 := HV5.out
      have HKN : Hid (k = es.length) := HN
      have HG2 := Lib.hid (good_snoc HES.out HC.out)
      go_region_held3 (fun w' => (w'.cell? ⟨w.heap.size, 0, none⟩ = some (.int .u64 c.ver) ∧ w'.cell? ⟨w.heap.size, 1, none⟩ = some (.int .u64 c.codec) ∧ w'.cell? ⟨w.heap.size, 2, none⟩ = some (.int .u64 c.code) ∧ w'.cell? ⟨w.heap.size, 3, none⟩ = some (.string ⟨c.dig.toArray⟩)) ∧ Below w5.heap.size w5 w')
        ((exact cells_of R5.out (by repeat (first | assumption | exact Below.refl _ _ | apply Below.drew | apply bel_alloc))))
        (first
          | (go_at_call 18
             have hi2 := iiHas v2 (es ++ [⟨c, 0⟩]) c w7 hes7 HG2.out.1 HG2.out.2 HC.out ((HU.out.below HB5.out).below hb7) true true ⟨fun _ => ⟨⟨c, 0⟩, by simp, rfl⟩, fun _ => rfl⟩ ⟨fun _ => ⟨⟨c, 0⟩, by simp, rfl, rfl⟩, fun _ => rfl⟩
             unfold cid4 at hi2
             refine hi2.mono ?_
             rintro e w8 ⟨rfl, hb8⟩
             have hb9 := below_next hb7 hb8)
          | (refine step59 (by rfl) (by rfl) (w5 := w5) (by repeat (first | assumption | exact Below.refl _ _ | apply Below.drew | apply bel_alloc)) w5.heap.size (Nat.le_refl _) (by rfl) (by first | exact heap_alloc_new _ _ | exact heap_alloc_old' (heap_alloc_new _ _)) A cc k es (by rfl) HV5.out HKN.out hn ?_
             intro v1 w6 hb6 hown6 hkeep6)
          | (refine step59 (by rfl) (by rfl) (w5 := w5) (by repeat (first | assumption | exact Below.refl _ _ | apply Below.drew | apply bel_alloc)) (w5.heap.size + 1) (Nat.le_succ _) (by rfl) (by first | exact heap_alloc_new _ _ | exact (congrArg _ (by simp)).trans (heap_alloc_new _ _)) A cc k es (by rfl) HV5.out HKN.out hn ?_
             intro v1 w6 hb6 hown6 hkeep6)
          | (refine step63 (by rfl) (by rfl) (w5 := w5) (by repeat (first | assumption | exact Below.refl _ _ | apply Below.drew | apply bel_alloc)) v1 (by rfl) k es (own_alloc hown6 _) HKN.out hn w6.heap.size (by rfl) c (heap_alloc_new _ _) ?_
             intro v2 w7 hb7 hes7)
          | (refine step63 (by rfl) (by rfl) (w5 := w5) (by repeat (first | assumption | exact Below.refl _ _ | apply Below.drew | apply bel_alloc)) v1 (by rfl) k es hown6 HKN.out hn w5.heap.size (by rfl) c (hkeep6 _ _ (by omega) (heap_alloc_old' (heap_alloc_new _ _))) ?_
             intro v2 w7 hb7 hes7)
          | (refine step63 (by rfl) (by rfl) (w5 := w5) (by repeat (first | assumption | exact Below.refl _ _ | apply Below.drew | apply bel_alloc)) v1 (by rfl) k es hown6 HKN.out hn (w5.heap.size + 1) (by rfl) c (hkeep6 _ _ (by omega) ((congrArg _ (by simp)).trans (heap_alloc_new _ _))) ?_
             intro v2 w7 hb7 hes7))
      all_goals
        have HKD : Hid (hasM es c → hasD es c.dig) := Lib.hid (fun ⟨e, he, h⟩ => ⟨e, he, h.2⟩)
        have hw10 := below_next HB5.out hb9
        have HW10 := Lib.hid hw10
        have r10 := row_below hb9 (block_of_row R5.out) R5.out
        obtain ⟨q0, q1, q2, q3⟩ := row4 r10
        have HOF := Lib.hid (ofDigest_b (.slice A k cc) es c.dig w8 (HV5.out.below hb9) (by rw [← HKN.out]; omega))
        clear hb6 hb7 hb8 hb9 hown6 hkeep6 hes7 hes5 hw10 r10 c0 c1 c2 c3 HB5 HV5 R5 HG2
        cases y
        · go_wp2_with fail
          refine HOF.out.mono ?_
          rintro e w9 ⟨⟨A', m, c', rfl, hm, hiff⟩, hb11⟩
          have HW11 := Lib.hid (below_next HW10.out hb11)
          clear hb11 hiff
          cases x
          · rcases Nat.eq_zero_or_pos m with rfl | h0
            · go_wp2_with fail
              go_ret
              exact ⟨rfl, HW11.out⟩
            · have h0' : (0 : Int) < m := by omega
              go_wp2_with fail
              go_ret
              exact ⟨rfl, HW11.out⟩
          · rcases Nat.eq_zero_or_pos m with rfl | h0
            · go_wp2_with fail
              go_ret
              exact ⟨rfl, HW11.out⟩
            · have h0' : (0 : Int) < m := by omega
              go_wp2_with fail
              go_ret
              exact ⟨rfl, HW11.out⟩
        · go_wp2_with fail
          refine HOF.out.mono ?_
          rintro e w9 ⟨⟨A', m, c', rfl, hm, hiff⟩, hb11⟩
          have h0 : 0 < m := hiff.2 (HKD.out (by have := HY.out; simpa using this))
          have h0' : (0 : Int) < m := by omega
          have HW11 := Lib.hid (below_next HW10.out hb11)
          clear hb11 hiff
          cases x
          · go_wp2_with fail
            go_ret
            exact ⟨rfl, HW11.out⟩
          · go_wp2_with fail
            go_ret
            exact ⟨rfl, HW11.out⟩
end Go.Proofs.YthfgnhgijgjggaaDoor
