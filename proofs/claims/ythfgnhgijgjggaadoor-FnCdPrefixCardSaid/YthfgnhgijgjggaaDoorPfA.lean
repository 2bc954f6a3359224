/- Contracts: (cid.Prefix).Bytes. -/
import Derived.Test.YthfgnhgijgjggaaDoorCdN
import Derived.Test.YthfgnhgijgjggaaDoorMhC
import Derived.StillTailTactics
namespace Go.Proofs.YthfgnhgijgjggaaDoor
open Go.RowKit

theorem splice_next (z : Value) (a b : List Value) (r : Nat) : splice (a ++ List.replicate r z) a.length b = (a ++ b) ++ List.replicate (r - b.length) z := by
  simp [splice]

theorem putUvR_any (g n c x r o : Nat) (done : List UInt8) (t : TypeId) (w : World) (hx : x < 18446744073709551616) (ho : o = done.length)
    (hrow : w.heap[g]? = some (.cells (Lib.byteCells done ++ List.replicate r (Value.int .u8 0)).toArray t (0, 0)))
    (hfit : (Lib.uvarint x).length ≤ r) (hn : (Lib.uvarint x).length ≤ n) :
    Calls Tryd.prog 82 #[.slice (some ⟨g, o, none⟩) n c, .int .u64 x] w fun e w' =>
      e = .returned (.int .i64 (Lib.uvarint x).length) ∧ Hid (w'.heap[g]? = some (.cells (Lib.byteCells (done ++ Lib.uvarint x) ++ List.replicate (r - (Lib.uvarint x).length) (Value.int .u8 0)).toArray t (0, 0))) ∧ Turn g w w' := by
  refine (putUvW_any g o n c x _ t w hx hrow (by rw [List.length_append, List.length_replicate, Lib.byteCells_length, ho]; omega) hn).mono ?_
  rintro e w' ⟨rfl, h1, h2⟩
  refine ⟨rfl, Lib.hid ?_, h2⟩
  rw [h1.out, ho, ← Lib.byteCells_length done, splice_next, ← Lib.byteCells_append, Lib.byteCells_length]

/-- The bytes of a prefix. -/
def pfEnc (a b c d : Nat) : List UInt8 := Lib.uvarint a ++ (Lib.uvarint b ++ (Lib.uvarint c ++ Lib.uvarint d))

set_option maxRecDepth 100000 in
set_option maxHeartbeats 4000000 in
theorem pfBytes (a b c d : Nat) (ha : a < 18446744073709551616) (hb : b < 18446744073709551616) (hc : c < 18446744073709551616) (hd : d < 9223372036854775808) (w : World) :
    Calls Tryd.prog 45 #[.agg #[.int .u64 a, .int .u64 b, .int .u64 c, .int .i64 d]] w fun e w' => HasBytes (pfEnc a b c d) e w' ∧ Below w.heap.size w w' := by
  have hA : Below w.heap.size w (w.alloc (.cells #[.int .u64 a, .int .u64 b, .int .u64 c, .int .i64 d] 91)) := (Below.refl _ _).alloc (Nat.le_refl _) _
  have R0 := heap_alloc_new w (.cells #[.int .u64 a, .int .u64 b, .int .u64 c, .int .i64 d] 91)
  have hg0 : (w.alloc (.cells #[.int .u64 a, .int .u64 b, .int .u64 c, .int .i64 d] 91)).heap.size = w.heap.size + 1 := by simp
  have la := Lib.uvarint_length64 ha
  have lb := Lib.uvarint_length64 hb
  have lc := Lib.uvarint_length64 hc
  have ld := Lib.uvarint_length64 (x := d) (by omega)
  have pa := Lib.uvarint_pos a
  have pb := Lib.uvarint_pos b
  have pc := Lib.uvarint_pos c
  have pd := Lib.uvarint_pos d
  have hw64 : (d : Int) % 18446744073709551616 = d := by omega
  have S1 := fun W => Lib.hid (uvSize_any a W ha)
  have S2 := fun W => Lib.hid (uvSize_any b W hb)
  have S3 := fun W => Lib.hid (uvSize_any c W hc)
  have S4 := fun W => Lib.hid (uvSize_any d W (by omega))
  have P1 := fun g n k r o done W h1 h2 h3 h4 => Lib.hid (putUvR_any g n k a r o done 5 W ha h1 h2 h3 h4)
  have P2 := fun g n k r o done W h1 h2 h3 h4 => Lib.hid (putUvR_any g n k b r o done 5 W hb h1 h2 h3 h4)
  have P3 := fun g n k r o done W h1 h2 h3 h4 => Lib.hid (putUvR_any g n k c r o done 5 W hc h1 h2 h3 h4)
  have P4 := fun g n k r o done W h1 h2 h3 h4 => Lib.hid (putUvR_any g n k d r o done 5 W (by omega) h1 h2 h3 h4)
  have hE : pfEnc a b c d = (((([] ++ Lib.uvarint a) ++ Lib.uvarint b) ++ Lib.uvarint c) ++ Lib.uvarint d) := by unfold pfEnc; simp
  rw [hE]
  clear hE ha hb hc
  generalize Lib.uvarint a = A at *
  generalize Lib.uvarint b = B at *
  generalize Lib.uvarint c = C at *
  generalize Lib.uvarint d = D at *
  obtain ⟨na, hna⟩ : ∃ n, n = A.length := ⟨_, rfl⟩
  obtain ⟨nb, hnb⟩ : ∃ n, n = B.length := ⟨_, rfl⟩
  obtain ⟨nc, hnc⟩ : ∃ n, n = C.length := ⟨_, rfl⟩
  obtain ⟨nd, hnd⟩ : ∃ n, n = D.length := ⟨_, rfl⟩
  rw [← hna] at la pa P1 S1
  rw [← hnb] at lb pb P2 S2
  rw [← hnc] at lc pc P3 S3
  rw [← hnd] at ld pd P4 S4
  have HNA := Lib.hid hna
  have HNB := Lib.hid hnb
  have HNC := Lib.hid hnc
  have HND := Lib.hid hnd
  clear hna hnb hnc hnd
  have k0 := cell_of_row' (cur := [_, _, _, _]) R0 0
  have k1 := cell_of_row' (cur := [_, _, _, _]) R0 1
  have k2 := cell_of_row' (cur := [_, _, _, _]) R0 2
  have k3 := cell_of_row' (cur := [_, _, _, _]) R0 3
  have HR0 := Lib.hid R0
  obtain ⟨w1, hmk, hb1, hs1, hrow⟩ := make_bytes (P := Tryd.prog) Tryd.underlying43 info_u8 (w.alloc (.cells #[.int .u64 a, .int .u64 b, .int .u64 c, .int .i64 d] 91)) (na + nb + nc + nd) (by omega)
  rw [hg0] at hmk hs1 hrow
  have eN : ((na + nb + nc + nd : Nat) : Int) = (na : Int) + nb + nc + nd := by omega
  rw [eN] at hmk
  have HROW := Lib.hid hrow
  have R1 := row_below hb1 (block_of_row R0) R0
  have b1 := below_next hA hb1
  clear R0 hrow hb1 hA
  have f1 := fun W => run_from (P := Tryd.prog) Tryd.underlying43 info_u8 (some ⟨w.heap.size + 1, 0, none⟩) (na + nb + nc + nd) (na + nb + nc + nd) na (by omega) W
  have f2 := fun W => run_from (P := Tryd.prog) Tryd.underlying43 info_u8 (some ⟨w.heap.size + 1, 0, none⟩) (na + nb + nc + nd) (na + nb + nc + nd) (na + nb) (by omega) W
  have f3 := fun W => run_from (P := Tryd.prog) Tryd.underlying43 info_u8 (some ⟨w.heap.size + 1, 0, none⟩) (na + nb + nc + nd) (na + nb + nc + nd) (na + nb + nc) (by omega) W
  rw [cutA_own _ _ _ _ (by omega), Nat.zero_add] at f1 f2 f3
  rw [show ((na + nb : Nat) : Int) = (na : Int) + nb by omega] at f2
  rw [show ((na + nb + nc : Nat) : Int) = (na : Int) + nb + nc by omega] at f3
  rw [show na + nb + nc + nd - (na + nb + nc) = nd by omega] at f3
  have g2 : IntKind.i64.wrap ((na : Int) + nb) = (na : Int) + nb := IntWalk.i64_in _ (by omega)
  have g3 : IntKind.i64.wrap ((na : Int) + nb + nc) = (na : Int) + nb + nc := IntWalk.i64_in _ (by omega)
  have g5 : IntKind.u64.wrap (d : Int) = (d : Int) := IntWalk.u64_in _ (by omega)
  have g4 : IntKind.i64.wrap ((na : Int) + nb + nc + nd) = (na : Int) + nb + nc + nd := IntWalk.i64_in _ (by omega)
  go_enter Tryd.func45, Tryd.ntmps45
  go_wp2_with fail
  generalize (w.alloc (.cells #[.int .u64 a, .int .u64 b, .int .u64 c, .int .i64 d] 91)) = w0 at *
  refine (S1 w0).out.mono ?_
  rintro e w' ⟨rfl, rfl⟩
  go_wp2_with fail
  refine (S2 w0).out.mono ?_
  rintro e w' ⟨rfl, rfl⟩
  go_wp2_with fail
  refine (S3 w0).out.mono ?_
  rintro e w' ⟨rfl, rfl⟩
  go_wp2_with fail
  refine (S4 w0).out.mono ?_
  rintro e w' ⟨rfl, rfl⟩
  clear S1 S2 S3 S4
  have j0 := cell_of_row' (cur := [_, _, _, _]) R1 0
  have j1 := cell_of_row' (cur := [_, _, _, _]) R1 1
  have j2 := cell_of_row' (cur := [_, _, _, _]) R1 2
  have j3 := cell_of_row' (cur := [_, _, _, _]) R1 3
  have HR1 := Lib.hid R1
  clear R1
  go_wp2_with fail
  clear hmk k0 k1 k2 k3
  refine (P1 (w.heap.size + 1) (na + nb + nc + nd) (na + nb + nc + nd) (na + nb + nc + nd) 0 [] w1 rfl HROW.out (by omega) (by omega)).out.mono ?_
  rintro e w2 ⟨rfl, h2, t2⟩
  have R2 := (t2.block w.heap.size (by omega)).trans HR1.out
  have b2 := b1.trans (t2.below (B := w.heap.size) (by omega))
  have k1 := cell_of_row' (cur := [_, _, _, _]) R2 1
  have Q2 := Lib.hid (P2 (w.heap.size + 1) (na + nb + nc + nd - na) (na + nb + nc + nd - na) (na + nb + nc + nd - na) na _ w2.drew (by rw [List.nil_append]; exact HNA.out) h2.out (by omega) (by omega))
  have HR2 := Lib.hid R2
  clear R2 t2 P1 P2 j0 j1 j2 j3
  go_wp2_with fail
  go_region_with (go_at_call 82; refine Q2.out.mono ?_; rintro e w3 ⟨rfl, h3, t3⟩)
  have R3 := (t3.block w.heap.size (by omega)).trans (show w2.drew.heap[w.heap.size]? = _ from HR2.out)
  have b3 := (show Below w.heap.size w w2.drew from below_drewN _ _ 1 |> b2.trans).trans (t3.below (B := w.heap.size) (by omega))
  have k2 := cell_of_row' (cur := [_, _, _, _]) R3 2
  have Q3 := Lib.hid (P3 (w.heap.size + 1) (na + nb + nc + nd - (na + nb)) (na + nb + nc + nd - (na + nb)) (na + nb + nc + nd - na - nb) (na + nb) _ w3.drew (by rw [List.nil_append, List.length_append, ← HNA.out, ← HNB.out]) h3.out (by omega) (by omega))
  have HR3 := Lib.hid R3
  clear R3 t3 P3 k1 Q2 HR2 h2 b2 f1
  go_wp2_with fail
  go_region_with (go_at_call 82; refine Q3.out.mono ?_; rintro e w4 ⟨rfl, h4, t4⟩)
  have R4 := (t4.block w.heap.size (by omega)).trans (show w3.drew.heap[w.heap.size]? = _ from HR3.out)
  have b4 := (show Below w.heap.size w w3.drew from below_drewN _ _ 1 |> b3.trans).trans (t4.below (B := w.heap.size) (by omega))
  have k3 := cell_of_row' (cur := [_, _, _, _]) R4 3
  have Q4 := Lib.hid (P4 (w.heap.size + 1) nd nd (na + nb + nc + nd - na - nb - nc) (na + nb + nc) _ w4.drew (by rw [List.nil_append, List.length_append, List.length_append, ← HNA.out, ← HNB.out, ← HNC.out]) h4.out (by omega) (by omega))
  have HR4 := Lib.hid R4
  clear R4 t4 P4 k2 Q3 HR3 h3 b3 f2
  go_wp2_with fail
  go_region_with (go_at_call 82; refine Q4.out.mono ?_; rintro e w5 ⟨rfl, h5, t5⟩)
  have b5 := (show Below w.heap.size w w4.drew from below_drewN _ _ 1 |> b4.trans).trans (t5.below (B := w.heap.size) (by omega))
  have hbs := Lib.hid (BS.of_row (c := na + nb + nc + nd) (g := w.heap.size + 1) (l := A ++ B ++ C ++ D) (w := w5) (t := 5) (m := (0, 0)) (by
    have h := h5.out
    rw [show na + nb + nc + nd - na - nb - nc - nd = 0 by omega, List.replicate_zero, List.append_nil, List.nil_append] at h
    exact h) (by simp only [List.length_append]; rw [← HNA.out, ← HNB.out, ← HNC.out, ← HND.out]; exact Nat.le_refl _))
  have hL : Hid ((A ++ B ++ C ++ D).length = na + nb + nc + nd) := Lib.hid (by simp only [List.length_append]; rw [← HNA.out, ← HNB.out, ← HNC.out, ← HND.out])
  clear t5 h5 k3 HR4 h4 f3 Q4
  go_wp2
  go_ret
  rw [hL.out] at hbs
  exact ⟨⟨_, _, _, rfl, hbs.out⟩, b5⟩
end Go.Proofs.YthfgnhgijgjggaaDoor
