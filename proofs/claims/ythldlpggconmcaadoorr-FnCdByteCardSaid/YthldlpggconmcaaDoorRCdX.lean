/- FnCdByte's walk: with one byte changed an identifier's bytes are none, or another one's. -/
import Derived.Test.YthldlpggconmcaaDoorRCdV
import Derived.Test.YthldlpggconmcaaDoorRCdW
namespace Go.Proofs.YthldlpggconmcaaDoorR
open Go.RowKit

theorem bs_set {w : World} {g n c k : Nat} {l : List UInt8} {y : UInt8} (hn : n = l.length) (hc : n ≤ c) (hk : k < n) (hcell : ∀ j (h : j < l.length), w.cell? ⟨g, j, none⟩ = some (.int .u8 (l[j].toNat))) :
    BS (w.setCell ⟨g, k, none⟩ (.int .u8 (y.toNat : Int))) (.slice (some ⟨g, 0, none⟩) n c) (l.set k y) := by
  have hl : (l.set k y).length = n := by rw [List.length_set]; exact hn.symm
  have := BS.of_cells (w := w.setCell ⟨g, k, none⟩ (.int .u8 (y.toNat : Int))) (b := g) (o := 0) (c := c) (l := l.set k y) (by rw [hl]; exact hc) (fun j hj => by
    rw [Nat.zero_add]
    rw [hl] at hj
    by_cases hjk : j = k
    · subst hjk
      rw [World.cell?_setCell_same _ _ _ (hcell j (by omega))]
      simp
    · rw [World.cell?_setCell_other _ _ _ _ (by simp), hcell j (by omega)]
      simp [Ne.symm hjk])
  rw [hl] at this
  exact this

/-- What impl.CdCast answers of the changed bytes: nothing, or another identifier. -/
theorem cast_changed (x : CidD) (S : ByteArray) (hS : S.size ≤ 2147483600) (hne : S.data.toList ≠ cidEnc x) (W : World) (hu : CdS W) :
    ∃ (a b c : Int) (D : ByteArray) (is : Bool), Hid (Calls Tryd.prog 24 #[.string S] W fun e w' => e = .returned (.tuple #[.agg #[.int .u64 a, .int .u64 b, .int .u64 c, .string D], .bool is]) ∧ Below W.heap.size W w') ∧
      (is = false ∨ (is = true ∧ ∀ W', (binOp .neq 26 (.agg #[.int .u64 a, .int .u64 b, .int .u64 c, .string D]) (cidVal x)).run Tryd.prog W' = .ok (.bool true) W')) := by
  by_cases h : ∃ y, cidRd S.data.toList = some (y, S.size)
  · obtain ⟨y, hy⟩ := h
    refine ⟨y.ver, y.codec, y.code, ⟨y.dig.toArray⟩, true, Lib.hid (cdCastI_ok S W hS hu y hy), .inr ⟨rfl, fun W' => neqCid_other y x ?_ W'⟩⟩
    intro e
    obtain ⟨_, h2, _, _⟩ := cidRd_take hy
    rw [← ba_len, List.take_length, e] at h2
    exact hne h2
  · exact ⟨0, 0, 0, ⟨#[]⟩, false, Lib.hid (cdCastI_no S W hS hu (fun y hy => h ⟨y, hy⟩)), .inl rfl⟩

set_option maxRecDepth 100000 in
set_option maxHeartbeats 4000000 in
theorem law_CdByte_good (x : CidD) (d : ByteArray) (p : Nat) (chb : UInt8) (hx : x.dig = d.data.toList) (hp : p < 65536) (hch : chb ≠ 0) (hg : x.good d) (w : World) (hu : CdS w) :
    Calls Tryd.prog 7 #[.agg #[.int .u64 x.ver, .int .u64 x.codec, .int .u64 x.code, .string d], .int .u16 p, .int .u8 chb.toNat] w fun e w' => e = .returned (.bool true) ∧ Below w.heap.size w w' := by
  have hds := hg.1
  have hA : Below w.heap.size w (w.alloc (cidO x.ver x.codec x.code d)) := (Below.refl _ _).alloc (Nat.le_refl _) _
  have hI := InRow.new w x.ver x.codec x.code d
  have F1 := fun W => Lib.hid (fits1 x.ver x.codec x.code d (by omega) W)
  have G1 := fun W => Lib.hid (cdGood_yes x d hx hg W)
  have B1 := fun W (h : Below w.heap.size w W) => Lib.hid (cdBytesI x.ver x.codec x.code d ⟨(cidEnc x).toArray⟩ true W (fun w1 hb => cidIn_ok x hg.2 d hx (by omega) w1 ((hu.below h).below hb).toUvS))
  obtain ⟨n2, nM⟩ := cidEnc_length_le x hg.2 (by rw [hx, ba_len]; omega)
  rw [hx, ba_len] at nM
  have CE : cidVal x = .agg #[.int .u64 x.ver, .int .u64 x.codec, .int .u64 x.code, .string d] := by unfold cidVal; rw [hx, ba_mk]
  have heq := fun W => eqCid_same x W
  have K2 : ∀ W, Below w.heap.size w W → Hid (Calls Tryd.prog 24 #[.string ⟨(cidEnc x).toArray⟩] W fun e w' => e = .returned (.tuple #[cidVal x, .bool true]) ∧ Below W.heap.size W w') := fun W h =>
    Lib.hid (cdCastI_ok ⟨(cidEnc x).toArray⟩ W (by show (cidEnc x).toArray.size ≤ _; rw [List.size_toArray]; omega) (hu.below h) x (by
      have := cidRd_enc0 x hg.2 (by rw [hx, ba_len]; omega)
      show cidRd (cidEnc x) = some (x, (cidEnc x).toArray.size)
      rw [List.size_toArray]; exact this))
  have KS : ∀ (S : ByteArray) (W : World), S.size ≤ 2147483600 → S.data.toList ≠ cidEnc x → Below w.heap.size w W → _ := fun S W h1 h2 h3 => cast_changed x S h1 h2 W (hu.below h3)
  rw [CE] at heq K2 KS
  have HKS := Lib.hid KS
  clear KS
  have hE : (⟨(cidEnc x).toArray⟩ : ByteArray).data.toList = cidEnc x := rfl
  generalize hEE : (⟨(cidEnc x).toArray⟩ : ByteArray) = E at *
  have hlen := ba_len E
  rw [hE] at hlen
  obtain ⟨N, hN⟩ : ∃ N, N = E.size := ⟨_, rfl⟩
  rw [← hN] at hlen
  have eN2 : 2 ≤ N := by omega
  have eNM : N ≤ 5000 := by omega
  obtain ⟨y1, y2, y3⟩ := ba_nonempty (s := E) (by omega)
  have hr0 : (0 : Int) ≤ (p : Int) % (N : Int) := Int.emod_nonneg _ (by omega)
  have hr1 : (p : Int) % (N : Int) < (N : Int) := Int.emod_lt_of_pos _ (by omega)
  have hkN : p % N < N := Nat.mod_lt _ (by omega)
  have hkL : p % N < (cidEnc x).length := by omega
  obtain ⟨cb, hcb⟩ : ∃ cb : UInt8, cb = (cidEnc x)[p % N] := ⟨_, rfl⟩
  have hxor := u8_xor cb chb
  have hyne := u8_xor_ne cb chb hch
  have hne : (cidEnc x).set (p % N) (cb ^^^ chb) ≠ cidEnc x := by
    intro e
    have h2 := congrArg (fun l => l[p % N]?) e
    simp only [List.getElem?_set_self hkL, List.getElem?_eq_getElem hkL, Option.some.injEq] at h2
    rw [← hcb] at h2
    exact hyne h2
  have hch0 : ((chb.toNat : Int) == 0) = false := by
    rw [beq_eq_false_iff_ne]
    intro e
    exact hch (UInt8.toNat_inj.1 (by show chb.toNat = 0; omega))
  have HNE := Lib.hid hne
  have HCB := Lib.hid hcb
  have HLEN := Lib.hid hlen
  have HE := Lib.hid hE
  have HNN := Lib.hid hN
  have HKL := Lib.hid hkL
  clear hne hcb hlen hE hyne hch hx hg hu n2 nM CE hEE hN
  generalize (x.ver : Int) = c0 at *
  generalize (x.codec : Int) = c1 at *
  generalize (x.code : Int) = c2 at *
  have I0 := Lib.hid hI
  have b0 := hA
  obtain ⟨k0, k1, k2, k3⟩ := hI.cells
  clear hI
  go_enter Tryd.func7, Tryd.ntmps7
  go_wp2_with fail
  refine (F1 _).out.mono ?_
  rintro e w1 ⟨rfl, hb⟩
  have b1 := below_next b0 hb
  have I1 := Lib.hid (I0.out.below hb)
  obtain ⟨k0, k1, k2, k3⟩ := I1.out.cells
  clear hb
  go_wp2_with fail
  refine (G1 _).out.mono ?_
  rintro e w2 ⟨rfl, hb⟩
  have b2 := below_next b1 hb
  have I2 := Lib.hid (I1.out.below hb)
  obtain ⟨k0, k1, k2, k3⟩ := I2.out.cells
  clear hb
  go_wp2_with fail
  refine (B1 _ b2).out.mono ?_
  rintro e w3 ⟨rfl, hb⟩
  have b3 := below_next b2 hb
  have I3 := Lib.hid (I2.out.below hb)
  obtain ⟨k0, k1, k2, k3⟩ := I3.out.cells
  clear hb
  obtain ⟨c, w4, hconv, hc, hb4, hz4, hfr, hcells⟩ := conv_own w3 E
  rw [HE.out] at hcells
  rw [← HNN.out] at hconv hc
  have hcellk := hcells (p % N) HKL.out
  rw [← HCB.out] at hcellk
  have hfrk := hfr (p % N) (by rw [← HNN.out]; exact hkN)
  have b4 := below_next b3 hb4
  have I4 := Lib.hid (I3.out.below hb4)
  have hg3 : w.heap.size + 1 ≤ w3.heap.size := by have := b3.size; have h2 := block_of_row I3.out; omega
  have HBS := Lib.hid (bs_set (w := w4) (g := w3.heap.size) (n := N) (c := c) (k := p % N) (l := cidEnc x) (y := cb ^^^ chb) HLEN.out.symm hc hkN hcells)
  have b5 : Below w.heap.size w (w4.setCell ⟨w3.heap.size, p % N, none⟩ (.int .u8 ((cb ^^^ chb).toNat : Int))) := b4.setCell (by show w.heap.size ≤ w3.heap.size; omega) _
  have hb45 : Below (w.heap.size + 1) w4 (w4.setCell ⟨w3.heap.size, p % N, none⟩ (.int .u8 ((cb ^^^ chb).toNat : Int))) := (Below.refl _ _).setCell (by show w.heap.size + 1 ≤ w3.heap.size; omega) _
  have I5 := Lib.hid (show InRow (w4.setCell ⟨w3.heap.size, p % N, none⟩ (.int .u8 ((cb ^^^ chb).toNat : Int))) w.heap.size c0 c1 c2 d from (hb45.block _ (by omega)).trans I4.out)
  have hcv := HBS.out.str (P := Tryd.prog) (dst := 9) Tryd.underlying40 Tryd.underlying5 Tryd.underlying9
  have hS : (⟨((cidEnc x).set (p % N) (cb ^^^ chb)).toArray⟩ : ByteArray).size ≤ 2147483600 := by
    show ((cidEnc x).set (p % N) (cb ^^^ chb)).toArray.size ≤ _
    rw [List.size_toArray, List.length_set]; have := HLEN.out; omega
  obtain ⟨a', b', c', D', is, HK, his⟩ := HKS.out ⟨((cidEnc x).set (p % N) (cb ^^^ chb)).toArray⟩ _ hS HNE.out b5
  generalize (⟨((cidEnc x).set (p % N) (cb ^^^ chb)).toArray⟩ : ByteArray) = S' at *
  clear hcells hfr hc hz4 hb4 hb45 hS HBS I4 HKS HNE HCB HE HKL HLEN HNN
  simp only [UInt8.toNat_xor] at b5 I5 hcv HK hxor
  go_wp2_with fail
  refine HK.out.mono ?_
  rintro e w6 ⟨rfl, hb6⟩
  have b6 : Below w.heap.size w (w6.alloc (objO a' b' c' D')) := (below_next b5 hb6).alloc (below_next b5 hb6).size _
  have I6 := Lib.hid (row_alloc (I5.out.below hb6) (objO a' b' c' D'))
  have R6 := Lib.hid (heap_alloc_new w6 (objO a' b' c' D'))
  have hz6 : w6.heap.size < (w6.alloc (objO a' b' c' D')).heap.size := by simp
  clear hb6 hcv hconv hcellk hfrk
  go_wp2_with fail
  refine (K2 _ b6).out.mono ?_
  rintro e w7 ⟨rfl, hb7⟩
  have b7 := below_next b6 hb7
  have I7 := Lib.hid (row_alloc (row_below hb7 (block_of_row I6.out) I6.out) (objO c0 c1 c2 d))
  have R7 := Lib.hid (row_alloc (row_below hb7 (block_of_row R6.out) R6.out) (objO c0 c1 c2 d))
  obtain ⟨k0, k1, k2, k3⟩ := cells4 I7.out
  obtain ⟨l0, l1, l2, l3⟩ := cells4 R7.out
  have b8 := b7.alloc b7.size (objO c0 c1 c2 d)
  clear hb7 HK K2
  rcases his with rfl | ⟨rfl, hneq⟩
  all_goals
    go_wp2
    go_ret
    exact ⟨rfl, b8⟩

set_option maxRecDepth 100000 in
set_option maxHeartbeats 2000000 in
theorem law_CdByte (x : CidD) (d : ByteArray) (p ch : Nat) (hx : x.dig = d.data.toList) (hp : p < 65536) (hch : ch < 256) (w : World) (hu : CdS w) :
    Calls Tryd.prog 7 #[.agg #[.int .u64 x.ver, .int .u64 x.codec, .int .u64 x.code, .string d], .int .u16 p, .int .u8 ch] w fun e w' => e = .returned (.bool true) ∧ Below w.heap.size w w' := by
  have hA : Below w.heap.size w (w.alloc (cidO x.ver x.codec x.code d)) := (Below.refl _ _).alloc (Nat.le_refl _) _
  have I0 := Lib.hid (InRow.new w x.ver x.codec x.code d)
  obtain ⟨k0, k1, k2, k3⟩ := I0.out.cells
  by_cases hf : d.size ≤ 2147483647
  · have F1 := fun W => Lib.hid (fits1 x.ver x.codec x.code d hf W)
    by_cases hg : x.good d
    · by_cases h0 : ch = 0
      · subst h0
        have G1 := fun W => Lib.hid (cdGood_yes x d hx hg W)
        clear hx hg hu hf
        generalize (x.ver : Int) = c0 at *
        generalize (x.codec : Int) = c1 at *
        generalize (x.code : Int) = c2 at *
        go_enter Tryd.func7, Tryd.ntmps7
        go_wp2_with fail
        refine (F1 _).out.mono ?_
        rintro e w1 ⟨rfl, hb⟩
        have b1 := below_next hA hb
        have I1 := Lib.hid (I0.out.below hb)
        obtain ⟨k0, k1, k2, k3⟩ := I1.out.cells
        clear hb
        go_wp2_with fail
        refine (G1 _).out.mono ?_
        rintro e w2 ⟨rfl, hb⟩
        have b2 := below_next b1 hb
        go_wp2
        go_ret
        exact ⟨rfl, b2⟩
      · have e : ((ch : Int)) = (((UInt8.ofNat ch).toNat : Nat) : Int) := by
          congr 1
          rw [UInt8.toNat_ofNat']
          exact (Nat.mod_eq_of_lt hch).symm
        rw [e]
        refine law_CdByte_good x d p (UInt8.ofNat ch) hx hp ?_ hg w hu
        intro h
        have := congrArg UInt8.toNat h
        rw [UInt8.toNat_ofNat', Nat.mod_eq_of_lt hch] at this
        exact h0 this
    · have G1 := fun W => Lib.hid (cdGood_no x d hx hg W)
      clear hx hg hu hf
      generalize (x.ver : Int) = c0 at *
      generalize (x.codec : Int) = c1 at *
      generalize (x.code : Int) = c2 at *
      go_enter Tryd.func7, Tryd.ntmps7
      go_wp2_with fail
      refine (F1 _).out.mono ?_
      rintro e w1 ⟨rfl, hb⟩
      have b1 := below_next hA hb
      have I1 := Lib.hid (I0.out.below hb)
      obtain ⟨k0, k1, k2, k3⟩ := I1.out.cells
      clear hb
      go_wp2_with fail
      refine (G1 _).out.mono ?_
      rintro e w2 ⟨rfl, hb⟩
      have b2 := below_next b1 hb
      go_wp2
      go_ret
      exact ⟨rfl, b2⟩
  · have F1 := fun W => Lib.hid (fits1_no x.ver x.codec x.code d (by omega) W)
    clear hx hu hf
    generalize (x.ver : Int) = c0 at *
    generalize (x.codec : Int) = c1 at *
    generalize (x.code : Int) = c2 at *
    go_enter Tryd.func7, Tryd.ntmps7
    go_wp2_with fail
    refine (F1 _).out.mono ?_
    rintro e w1 ⟨rfl, hb⟩
    have b1 := below_next hA hb
    go_wp2
    go_ret
    exact ⟨rfl, b1⟩
end Go.Proofs.YthldlpggconmcaaDoorR
