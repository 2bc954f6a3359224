/- FnCdBytes' walk: an identifier's bytes are as the specification has them, and there are none of what is no identifier. -/
import Derived.Test.YthldlpggconmcaaDoorRCdS
namespace Go.Proofs.YthldlpggconmcaaDoorR
open Go.RowKit

/-- A variable of type impl.Cid that holds an identifier. -/
def InRow (w : World) (g : Nat) (a b c : Int) (d : ByteArray) : Prop := w.heap[g]? = some (.cells #[.int .u64 a, .int .u64 b, .int .u64 c, .string d] 26 (0, 0))
theorem InRow.cells {w : World} {g : Nat} {a b c : Int} {d : ByteArray} (h : InRow w g a b c d) : w.cell? ⟨g, 0, none⟩ = some (.int .u64 a) ∧ w.cell? ⟨g, 1, none⟩ = some (.int .u64 b) ∧ w.cell? ⟨g, 2, none⟩ = some (.int .u64 c) ∧ w.cell? ⟨g, 3, none⟩ = some (.string d) :=
  ⟨cell_of_row' (cur := [_, _, _, _]) h 0, cell_of_row' (cur := [_, _, _, _]) h 1, cell_of_row' (cur := [_, _, _, _]) h 2, cell_of_row' (cur := [_, _, _, _]) h 3⟩
theorem InRow.below {w w' : World} {g : Nat} {a b c : Int} {d : ByteArray} (h : InRow w g a b c d) (hb : Below w.heap.size w w') : InRow w' g a b c d := row_below hb (block_of_row h) h
theorem InRow.new (w : World) (a b c : Int) (d : ByteArray) : InRow (w.alloc (cidO a b c d)) w.heap.size a b c d := heap_alloc_new w _

/-- An identifier as the law's argument. -/
structure CidArg (x : CidD) (d : ByteArray) : Prop where
  dig : x.dig = d.data.toList

theorem spCidBytes_ok (x : CidD) (d : ByteArray) (hx : x.dig = d.data.toList) (ht : x.tidy) (hd : d.size ≤ 2147483647) (w : World) :
    Calls Tryd.prog 21 #[.agg #[.int .u64 x.ver, .int .u64 x.codec, .int .u64 x.code, .string d]] w fun e w' => e = .returned (.string ⟨(cidEnc x).toArray⟩) ∧ Below w.heap.size w w' := by
  obtain ⟨v, codec, code, dg⟩ := x
  simp only at hx
  subst hx
  rcases ht with ⟨h0, h1, h2, h3⟩ | ⟨h0, h1, h2⟩
  · simp only at h0 h1 h2
    subst h0 h1 h2
    exact spCidBytes_v0 112 18 (by omega) d hd w
  · simp only at h0 h1 h2
    subst h0
    exact spCidBytes_v1 1 codec code (by omega) (by omega) (by omega) d hd w

set_option maxRecDepth 100000 in
set_option maxHeartbeats 2000000 in
theorem law_CdBytes_in (x : CidD) (d : ByteArray) (hx : x.dig = d.data.toList) (h1 : x.codec < 9223372036854775808) (h2 : x.code < 9223372036854775808) (hd : d.size ≤ 4096) (w : World) (hu : CdS w) :
    Calls Tryd.prog 5 #[.agg #[.int .u64 x.ver, .int .u64 x.codec, .int .u64 x.code, .string d]] w fun e w' => e = .returned (.bool true) ∧ Below w.heap.size w w' := by
  have hA : Below w.heap.size w (w.alloc (cidO x.ver x.codec x.code d)) := (Below.refl _ _).alloc (Nat.le_refl _) _
  have hI := InRow.new w x.ver x.codec x.code d
  have F := fun W => Lib.hid (fits1 x.ver x.codec x.code d (by omega) W)
  have O := fun W (h : Below w.heap.size w W) => Lib.hid (cdOne_any W (hu.below h))
  have g1 := big_yes h1
  have g2 := big_yes h2
  by_cases ht : x.tidy
  · have B := fun W (h : Below w.heap.size w W) => Lib.hid (cdBytesI x.ver x.codec x.code d ⟨(cidEnc x).toArray⟩ true W (fun w1 hb => cidIn_ok x ht d hx (by omega) w1 ((hu.below h).below hb).toUvS))
    have T := fun W => Lib.hid (spTidy_yes x d hx ht W)
    have C := fun W => Lib.hid (spCidBytes_ok x d hx ht (by omega) W)
    generalize (x.ver : Int) = c0 at *
    generalize (x.codec : Int) = c1 at *
    generalize (x.code : Int) = c2 at *
    generalize (⟨(cidEnc x).toArray⟩ : ByteArray) = E at *
    have HI := Lib.hid hI
    clear hI ht hx h1 h2 hu
    go_enter Tryd.func5, Tryd.ntmps5
    go_wp2_with fail
    refine (F _).out.mono ?_
    rintro e w1 ⟨rfl, hb1⟩
    have b1 := below_next hA hb1
    have I1 := HI.out.below hb1
    obtain ⟨k0, k1, k2, k3⟩ := I1.cells
    have J1 := Lib.hid I1
    clear I1 hb1
    go_wp2_with fail
    refine (B _ b1).out.mono ?_
    rintro e w2 ⟨rfl, hb2⟩
    have b2 := below_next b1 hb2
    have I2 := J1.out.below hb2
    obtain ⟨k0, k1, k2, k3⟩ := I2.cells
    have J2 := Lib.hid I2
    clear I2 hb2
    go_wp2_with fail
    refine (T _).out.mono ?_
    rintro e w3 ⟨rfl, hb3⟩
    have b3 := below_next b2 hb3
    have I3 := J2.out.below hb3
    obtain ⟨k0, k1, k2, k3⟩ := I3.cells
    clear I3 hb3
    go_wp2_with fail
    refine (C _).out.mono ?_
    rintro e w4 ⟨rfl, hb4⟩
    have b4 := below_next b3 hb4
    clear hb4
    go_wp2_with fail
    refine (O _ b4).out.mono ?_
    rintro e w5 ⟨rfl, hb5⟩
    have b5 := below_next b4 hb5
    clear hb5
    go_wp2
    go_ret
    exact ⟨rfl, b5⟩
  · have B := fun W (h : Below w.heap.size w W) => Lib.hid (cidIn_no x ht h1 h2 d hx (by omega) W (hu.below h))
    have T := fun W => Lib.hid (spTidy_no x d hx ht W)
    generalize (x.ver : Int) = c0 at *
    generalize (x.codec : Int) = c1 at *
    generalize (x.code : Int) = c2 at *
    have HI := Lib.hid hI
    clear hI ht hx h1 h2 hu
    go_enter Tryd.func5, Tryd.ntmps5
    go_wp2_with fail
    refine (F _).out.mono ?_
    rintro e w1 ⟨rfl, hb1⟩
    have b1 := below_next hA hb1
    have I1 := HI.out.below hb1
    obtain ⟨k0, k1, k2, k3⟩ := I1.cells
    have J1 := Lib.hid I1
    clear I1 hb1
    go_wp2_with fail
    refine (cdBytesI_no c0 c1 c2 d w1 (fun W hb => (B W (below_next b1 hb)).out)).mono ?_
    rintro e w2 ⟨⟨s, rfl⟩, hb2⟩
    have b2 := below_next b1 hb2
    have I2 := J1.out.below hb2
    obtain ⟨k0, k1, k2, k3⟩ := I2.cells
    clear I2 hb2
    go_wp2_with fail
    refine (T _).out.mono ?_
    rintro e w3 ⟨rfl, hb3⟩
    have b3 := below_next b2 hb3
    clear hb3
    go_wp2_with fail
    refine (O _ b3).out.mono ?_
    rintro e w5 ⟨rfl, hb5⟩
    have b5 := below_next b3 hb5
    clear hb5
    go_wp2
    go_ret
    exact ⟨rfl, b5⟩

set_option maxRecDepth 100000 in
set_option maxHeartbeats 2000000 in
theorem law_CdBytes (v codec code : Nat) (hcodec : codec < 18446744073709551616) (hcode : code < 18446744073709551616) (d : ByteArray) (w : World) (hu : CdS w) :
    Calls Tryd.prog 5 #[.agg #[.int .u64 v, .int .u64 codec, .int .u64 code, .string d]] w fun e w' => e = .returned (.bool true) ∧ Below w.heap.size w w' := by
  by_cases hin : codec < 9223372036854775808 ∧ code < 9223372036854775808 ∧ d.size ≤ 4096
  · exact law_CdBytes_in ⟨v, codec, code, d.data.toList⟩ d rfl hin.1 hin.2.1 hin.2.2 w hu
  have hA : Below w.heap.size w (w.alloc (cidO v codec code d)) := (Below.refl _ _).alloc (Nat.le_refl _) _
  have hI := InRow.new w v codec code d
  by_cases z1 : 2147483647 < d.size
  · have F := fun W => Lib.hid (fits1_no v codec code d z1 W)
    clear hin hI hcodec hcode
    generalize (v : Int) = c0 at *
    generalize (codec : Int) = c1 at *
    generalize (code : Int) = c2 at *
    go_enter Tryd.func5, Tryd.ntmps5
    go_wp2_with fail
    refine (F _).out.mono ?_
    rintro e w1 ⟨rfl, hb1⟩
    have b1 := below_next hA hb1
    go_wp2
    go_ret
    exact ⟨rfl, b1⟩
  · have F := fun W => Lib.hid (fits1 v codec code d (by omega) W)
    have hc : (9223372036854775808 : Int) ≤ codec ∨ ((codec : Int) < 9223372036854775808 ∧ ((9223372036854775808 : Int) ≤ code ∨ ((code : Int) < 9223372036854775808 ∧ 4096 < d.size))) := by omega
    clear hin hcodec hcode z1
    generalize (v : Int) = c0 at *
    generalize (codec : Int) = c1 at *
    generalize (code : Int) = c2 at *
    have HI := Lib.hid hI
    clear hI
    rcases hc with h1 | ⟨h1, h2 | ⟨h2, h3⟩⟩
    all_goals
      go_enter Tryd.func5, Tryd.ntmps5
      go_wp2_with fail
      refine (F _).out.mono ?_
      rintro e w1 ⟨rfl, hb1⟩
      have b1 := below_next hA hb1
      have I1 := HI.out.below hb1
      obtain ⟨k0, k1, k2, k3⟩ := I1.cells
      clear I1 hb1
      go_wp2
      go_ret
      exact ⟨rfl, b1⟩
end Go.Proofs.YthldlpggconmcaaDoorR
