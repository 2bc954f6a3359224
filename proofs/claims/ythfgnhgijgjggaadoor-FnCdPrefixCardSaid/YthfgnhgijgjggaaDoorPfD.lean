/- FnCdPrefix's walk: an identifier's prefix is its four numbers as varints, and is read as these. -/
import Derived.Test.YthfgnhgijgjggaaDoorPfC
import Derived.Test.YthfgnhgijgjggaaDoorCdU
import Derived.Test.YthfgnhgijgjggaaDoorCdV
import Derived.Test.YthfgnhgijgjggaaDoorSpB
import Derived.Test.YthfgnhgijgjggaaDoorEach
namespace Go.Proofs.YthfgnhgijgjggaaDoor
open Go.RowKit

attribute [local go_sem] gives givesUpon evalOf look wants asBool

def TurnsS (S : ByteArray) (v : Value) (w : World) : Prop := ∀ W, Below w.heap.size w W → (convert 43 9 v).run Tryd.prog W = .ok (.string S) W
theorem TurnsS.on {S : ByteArray} (v : Value) (w1 w2 : World) (hb : Below w1.heap.size w1 w2) (h : TurnsS S v w1) : TurnsS S v w2 := fun W hW => h W (below_next hb hW)
theorem spVarintT (n : Nat) (hn : n < 18446744073709551616) (S : ByteArray) (hS : S = ⟨(Lib.uvarint n).toArray⟩) (w : World) :
    Calls Tryd.prog 23 #[.int .u64 n] w fun e w' => ∃ v, e = .returned v ∧ Below w.heap.size w w' ∧ TurnsS S v w' :=
  (spVarintS n hn S hS w).mono fun _ _ ⟨⟨_, _, _, he, hc⟩, hb⟩ => ⟨_, he, hb, hc⟩

set_option linter.constructorNameAsVariable false in
set_option maxRecDepth 100000 in
set_option maxHeartbeats 8000000 in
theorem law_CdPrefix_good (x : CidD) (d : ByteArray) (hx : x.dig = d.data.toList) (hg : x.good d) (w : World) (hu : CdS w) (e0 e1 : Addr) (t2 t3 : TypeId) (p2 p3 : Value) (he : UvErrs w.heap.size w e0 e1 (.iface t2 p2) (.iface t3 p3)) :
    Calls Tryd.prog 5 #[.agg #[.int .u64 x.ver, .int .u64 x.codec, .int .u64 x.code, .string d]] w fun e w' => e = .returned (.bool true) ∧ Below w.heap.size w w' := by
  have hds := hg.1
  have hA : Below w.heap.size w (w.alloc (cidO x.ver x.codec x.code d)) := (Below.refl _ _).alloc (Nat.le_refl _) _
  have hI := InRow.new w x.ver x.codec x.code d
  have hb0 : x.ver < 9223372036854775808 ∧ x.codec < 9223372036854775808 ∧ x.code < 9223372036854775808 := by
    rcases hg.2 with ⟨h0, h1, h2, h3⟩ | ⟨h0, h1, h2⟩ <;> omega
  have F1 := fun W => Lib.hid (fits1 x.ver x.codec x.code d (by omega) W)
  have G1 := fun W => Lib.hid (cdGood_yes x d hx hg W)
  have P1 := fun W (h : Below w.heap.size w W) => Lib.hid (cdPrefixI x hg.2 d hx (by omega) W (hu.below h).toUvS)
  have R1 := fun W (h : Below w.heap.size w W) => Lib.hid (cdPrefixRead x.ver x.codec x.code d.size hb0.1 hb0.2.1 hb0.2.2 (by omega) W e0 e1 t2 t3 p2 p3 ((he.keep (S := fun _ => False) h.keep (fun _ h => h.elim)).mono h.size))
  have O := fun W (h : Below w.heap.size w W) => Lib.hid (cdOne_any W (hu.below h))
  obtain ⟨SA, hSA⟩ : ∃ S : ByteArray, S = ⟨(Lib.uvarint x.ver).toArray⟩ := ⟨_, rfl⟩
  obtain ⟨SB, hSB⟩ : ∃ S : ByteArray, S = ⟨(Lib.uvarint x.codec).toArray⟩ := ⟨_, rfl⟩
  obtain ⟨SC, hSC⟩ : ∃ S : ByteArray, S = ⟨(Lib.uvarint x.code).toArray⟩ := ⟨_, rfl⟩
  obtain ⟨SD, hSD⟩ : ∃ S : ByteArray, S = ⟨(Lib.uvarint d.size).toArray⟩ := ⟨_, rfl⟩
  have z1 : SA.size ≤ 10 := by rw [hSA]; show (Lib.uvarint x.ver).toArray.size ≤ 10; rw [List.size_toArray]; exact Lib.uvarint_length64 (by omega)
  have z2 : SB.size ≤ 10 := by rw [hSB]; show (Lib.uvarint x.codec).toArray.size ≤ 10; rw [List.size_toArray]; exact Lib.uvarint_length64 (by omega)
  have z3 : SC.size ≤ 10 := by rw [hSC]; show (Lib.uvarint x.code).toArray.size ≤ 10; rw [List.size_toArray]; exact Lib.uvarint_length64 (by omega)
  have z4 : SD.size ≤ 10 := by rw [hSD]; show (Lib.uvarint d.size).toArray.size ≤ 10; rw [List.size_toArray]; exact Lib.uvarint_length64 (by omega)
  have hout : (⟨(pfEnc x.ver x.codec x.code d.size).toArray⟩ : ByteArray) = SA ++ SB ++ SC ++ SD := by
    rw [hSA, hSB, hSC, hSD, ba_cat', ba_cat', ba_cat']
    unfold pfEnc
    rw [List.append_assoc, List.append_assoc]
  rw [hout] at P1 R1
  have C1 := fun W => Lib.hid (spVarintT x.ver (by omega) SA hSA W)
  have C2 := fun W => Lib.hid (spVarintT x.codec (by omega) SB hSB W)
  have C3 := fun W => Lib.hid (spVarintT x.code (by omega) SC hSC W)
  have C4 := fun W => Lib.hid (spVarintT d.size (by omega) SD hSD W)
  have y5 : ¬ 9223372036854775807 < SA.size + SB.size := by omega
  have y6 : ¬ 9223372036854775807 < SA.size + SB.size + SC.size := by omega
  have y7 : ¬ 9223372036854775807 < SA.size + SB.size + SC.size + SD.size := by omega
  have hwr : IntKind.u64.wrap (d.size : Int) = (d.size : Int) := IntWalk.u64_in _ (by omega)
  clear hg hu hx he hb0 hSA hSB hSC hSD hout
  generalize (x.ver : Int) = c0 at *
  generalize (x.codec : Int) = c1 at *
  generalize (x.code : Int) = c2 at *
  have I0 := Lib.hid hI
  have b0 := hA
  obtain ⟨k0, k1, k2, k3⟩ := hI.cells
  clear hI
  go_enter Tryd.func5, Tryd.ntmps5
  go_wp2_with fail
  refine (F1 _).out.mono ?_
  rintro e w1 ⟨rfl, hb⟩
  have b1 := below_next b0 hb
  have I1 := Lib.hid (I0.out.below hb)
  obtain ⟨k0, k1, k2, k3⟩ := I1.out.cells
  clear hb
  go_wp2_with fail
  refine (G1 _).out.mono ?_
  rintro e w2 ⟨rfl, hb⟩
  have b2 := below_next b1 hb
  have I2 := Lib.hid (I1.out.below hb)
  obtain ⟨k0, k1, k2, k3⟩ := I2.out.cells
  clear hb
  go_wp2_with fail
  refine (P1 _ b2).out.mono ?_
  rintro e w3 ⟨rfl, hb⟩
  have b3 := below_next b2 hb
  have I3 := Lib.hid (I2.out.below hb)
  clear hb F1 G1 P1
  go_wp2_with fail
  refine (R1 _ b3).out.mono ?_
  rintro e w4 ⟨rfl, hb⟩
  have b4 := below_next b3 hb
  have I4 := Lib.hid (I3.out.below hb)
  clear hb R1
  go_wp2_with fail
  obtain ⟨wd, hwd⟩ : ∃ wd, wd = w4.drew := ⟨_, rfl⟩
  have h0 : Below w4.heap.size w4 wd := by rw [hwd]; exact below_drewN _ _ 1
  have Q := fun W (h : Below wd.heap.size wd W) => (I4.out.below (below_next h0 h)).cells
  have K0 : ∀ W, Below wd.heap.size wd W → W.cell? ⟨w.heap.size, 0, none⟩ = some (.int .u64 c0) := fun W h => (Q W h).1
  have K1 : ∀ W, Below wd.heap.size wd W → W.cell? ⟨w.heap.size, 1, none⟩ = some (.int .u64 c1) := fun W h => (Q W h).2.1
  have K2 : ∀ W, Below wd.heap.size wd W → W.cell? ⟨w.heap.size, 2, none⟩ = some (.int .u64 c2) := fun W h => (Q W h).2.2.1
  have K3 : ∀ W, Below wd.heap.size wd W → W.cell? ⟨w.heap.size, 3, none⟩ = some (.string d) := fun W h => (Q W h).2.2.2
  have HO := Lib.hid O
  have HB5 := Lib.hid (below_next b4 h0)
  clear Q k0 k1 k2 k3 b0 b1 b2 b3 b4 hA hds I0 I1 I2 I3 I4 O z1 z2 z3 z4 h0
  refine wp_region_below [some 30, some 31, some 32, some 33, some 34, some 35, some 36, some 37, some 38, some 39, some 40, some 41, some 42, some 43, some 44, some 45, some 46, some 47, some 48, some 49, some 50, some 10] (by kernel_rfl) (by kernel_rfl) (by kernel_rfl) (by kernel_rfl) ?_
  rw [← hwd]
  clear hwd
  repeat first
    | (refine Each.fixed ?_ (fun u W hle hk => ?_) ?_
       rotate_left
       · (simp [knows, factAt, Region.binds] at hk
          go_simp
          exact rfl))
    | (refine Each.fixed ?_ (fun u W hle hk => ?_) ?_
       rotate_left
       · (simp [knows, factAt, Region.binds] at hk
          have hc := hk W (Below.refl _ _)
          go_simp
          exact rfl))
    | (refine Each.made (TurnsS SA) TurnsS.on (fun u W hle hk => ?_) ?_
       · (simp [knows, factAt, Region.binds] at hk
          go_simp
          with_reducible exact (C1 _).out))
    | (refine Each.made (TurnsS SB) TurnsS.on (fun u W hle hk => ?_) ?_
       · (simp [knows, factAt, Region.binds] at hk
          go_simp
          with_reducible exact (C2 _).out))
    | (refine Each.made (TurnsS SC) TurnsS.on (fun u W hle hk => ?_) ?_
       · (simp [knows, factAt, Region.binds] at hk
          go_simp
          with_reducible exact (C3 _).out))
    | (refine Each.made (TurnsS SD) TurnsS.on (fun u W hle hk => ?_) ?_
       · (simp [knows, factAt, Region.binds] at hk
          go_simp
          with_reducible exact (C4 _).out))
  intro u W hle hf
  simp [allFacts] at hf
  obtain ⟨f0, f1, -, f3, f4, f5, -, f7, f8, f9, f10, -, f12, f13, f14, f15, f16, f17, -, f19, f20, f21⟩ := hf
  have b5 : Below w.heap.size w W := below_next HB5.out hle
  have q0 := K0 W hle
  have q1 := K1 W hle
  have q2 := K2 W hle
  have q3 := K3 W hle
  clear K0 K1 K2 K3 C1 C2 C3 C4 hle
  simp only [fillD, f0, f1, f3, f4, f5, f7, f8, f9, f10, f12, f13, f14, f15, f16, f17, f19, f20, f21]
  clear f0 f1 f3 f4 f5 f7 f8 f9 f10 f12 f13 f14 f15 f16 f17 f19 f20 f21
  go_simp
  go_wp2_with fail
  refine (HO.out _ b5).out.mono ?_
  rintro e w6 ⟨rfl, hb6⟩
  have b6 := below_next b5 hb6
  go_wp2
  go_ret
  exact ⟨rfl, b6⟩

set_option maxRecDepth 100000 in
set_option maxHeartbeats 1000000 in
theorem law_CdPrefix (x : CidD) (d : ByteArray) (hx : x.dig = d.data.toList) (w : World) (hu : CdS w) (e0 e1 : Addr) (t2 t3 : TypeId) (p2 p3 : Value) (he : UvErrs w.heap.size w e0 e1 (.iface t2 p2) (.iface t3 p3)) :
    Calls Tryd.prog 5 #[.agg #[.int .u64 x.ver, .int .u64 x.codec, .int .u64 x.code, .string d]] w fun e w' => e = .returned (.bool true) ∧ Below w.heap.size w w' := by
  have hA : Below w.heap.size w (w.alloc (cidO x.ver x.codec x.code d)) := (Below.refl _ _).alloc (Nat.le_refl _) _
  have I0 := Lib.hid (InRow.new w x.ver x.codec x.code d)
  obtain ⟨k0, k1, k2, k3⟩ := I0.out.cells
  by_cases hf : d.size ≤ 2147483647
  · have F1 := fun W => Lib.hid (fits1 x.ver x.codec x.code d hf W)
    by_cases hg : x.good d
    · exact law_CdPrefix_good x d hx hg w hu e0 e1 t2 t3 p2 p3 he
    · have G1 := fun W => Lib.hid (cdGood_no x d hx hg W)
      clear hx hg hu hf he
      generalize (x.ver : Int) = c0 at *
      generalize (x.codec : Int) = c1 at *
      generalize (x.code : Int) = c2 at *
      go_enter Tryd.func5, Tryd.ntmps5
      go_wp2_with fail
      refine (F1 _).out.mono ?_
      rintro e w1 ⟨rfl, hb⟩
      have b1 := below_next hA hb
      have I1 := Lib.hid (I0.out.below hb)
      obtain ⟨k0, k1, k2, k3⟩ := I1.out.cells
      clear hb
      go_wp2_with fail
      refine (G1 _).out.mono ?_
      rintro e w2 ⟨rfl, hb⟩
      have b2 := below_next b1 hb
      go_wp2
      go_ret
      exact ⟨rfl, b2⟩
  · have F1 := fun W => Lib.hid (fits1_no x.ver x.codec x.code d (by omega) W)
    clear hx hu hf he
    generalize (x.ver : Int) = c0 at *
    generalize (x.codec : Int) = c1 at *
    generalize (x.code : Int) = c2 at *
    go_enter Tryd.func5, Tryd.ntmps5
    go_wp2_with fail
    refine (F1 _).out.mono ?_
    rintro e w1 ⟨rfl, hb⟩
    have b1 := below_next hA hb
    go_wp2
    go_ret
    exact ⟨rfl, b1⟩
end Go.Proofs.YthfgnhgijgjggaaDoor
