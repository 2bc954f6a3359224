/- Contracts: cid.PrefixFromBytes. -/
import Derived.Test.YthfgnhgijgjggaaDoorPfA
import Derived.Test.YthfgnhgijgjggaaDoorRdD
import Derived.Test.YthfgnhgijgjggaaDoorCdQ
namespace Go.Proofs.YthfgnhgijgjggaaDoor
open Go.RowKit

theorem readUv_ok (p : Nat) (v : Value) (l : List UInt8) (i : Nat) (w : World) (hr : Rdr w p v l i) (e0 e1 : Addr) (t2 t3 : TypeId) (p2 p3 : Value) (he : UvErrs p w e0 e1 (.iface t2 p2) (.iface t3 p3)) (x m : Nat) (hd : uvDec (l.drop i) = .ok x m) :
    Calls Tryd.prog 83 #[rdV p] w fun e w' => e = .returned (.tuple #[.int .u64 x, .nilIface]) ∧ Rdr w' p v l (i + m) ∧ Keep (fun k => k = p) w w' := by
  refine (readUv p v l i w hr e0 e1 t2 t3 p2 p3 he).mono ?_
  rintro e w' ⟨rfl, ⟨j, hj, hr'⟩, hk⟩
  rw [hd] at hj ⊢
  obtain rfl : j = i + m := hj
  exact ⟨rfl, hr', hk⟩

abbrev pfZ : Obj := .cells #[.int .u64 0, .int .u64 0, .int .u64 0, .int .i64 0] 91

set_option maxRecDepth 100000 in
set_option maxHeartbeats 4000000 in
theorem pfFrom (A : Option Addr) (n k : Nat) (a b c d : Nat) (ha : a < 9223372036854775808) (hb : b < 9223372036854775808) (hc : c < 9223372036854775808) (hd : d < 9223372036854775808) (w : World) (hs : BS w (.slice A n k) (pfEnc a b c d))
    (e0 e1 : Addr) (t2 t3 : TypeId) (p2 p3 : Value) (he : UvErrs w.heap.size w e0 e1 (.iface t2 p2) (.iface t3 p3)) :
    Calls Tryd.prog 46 #[.slice A n k] w fun e w' => e = .returned (.tuple #[.agg #[.int .u64 a, .int .u64 b, .int .u64 c, .int .i64 d], .nilIface]) ∧ Below w.heap.size w w' := by
  have hA : Below w.heap.size w (w.alloc pfZ) := (Below.refl _ _).alloc (Nat.le_refl _) _
  have hR0 := heap_alloc_new w pfZ
  have hg : (w.alloc pfZ).heap.size = w.heap.size + 1 := by simp
  have la := Lib.uvarint_length64 (x := a) (by omega)
  have lb := Lib.uvarint_length64 (x := b) (by omega)
  have lc := Lib.uvarint_length64 (x := c) (by omega)
  have ld := Lib.uvarint_length64 (x := d) (by omega)
  obtain ⟨l, hl⟩ : ∃ l, l = pfEnc a b c d := ⟨_, rfl⟩
  have hlen : l.length ≤ 40 := by rw [hl]; unfold pfEnc; simp only [List.length_append]; omega
  obtain ⟨na, hna⟩ : ∃ n, n = (Lib.uvarint a).length := ⟨_, rfl⟩
  obtain ⟨nb, hnb⟩ : ∃ n, n = (Lib.uvarint b).length := ⟨_, rfl⟩
  obtain ⟨nc, hnc⟩ : ∃ n, n = (Lib.uvarint c).length := ⟨_, rfl⟩
  have D1 : uvDec (l.drop 0) = .ok a na := by rw [hl, hna]; exact uvDec_back a ha _
  have E1 : l.drop na = Lib.uvarint b ++ (Lib.uvarint c ++ Lib.uvarint d) := by rw [hl, hna]; unfold pfEnc; rw [List.drop_left]
  have D2 : uvDec (l.drop (0 + na)) = .ok b nb := by rw [Nat.zero_add, E1, hnb]; exact uvDec_back b hb _
  have E2 : l.drop (na + nb) = Lib.uvarint c ++ Lib.uvarint d := by rw [← List.drop_drop, E1, hnb, List.drop_left]
  have D3 : uvDec (l.drop (0 + na + nb)) = .ok c nc := by rw [Nat.zero_add, E2, hnc]; exact uvDec_back c hc _
  have D4 : uvDec (l.drop (0 + na + nb + nc)) = .ok d (Lib.uvarint d).length := by rw [Nat.zero_add, ← List.drop_drop, E2, hnc, List.drop_left, ← List.append_nil (Lib.uvarint d)]; rw [uvDec_back d hd _]; simp
  rw [← hl] at hs
  have hs0 := hs.below hA
  have he0 := Lib.hid ((he.keep (S := fun _ => False) hA.keep (fun _ h => h.elim)))
  have HN := Lib.hid (newReader (.slice A n k) l (w.alloc pfZ) hs0 (by omega))
  rw [hg] at HN
  clear hl hna hnb hnc E1 E2 la lb lc ld hs hs0 he hlen
  have R0 := Lib.hid hR0
  clear hR0
  have H1 := fun W hr he => Lib.hid (readUv_ok (w.heap.size + 1) (.slice A n k) l _ W hr e0 e1 t2 t3 p2 p3 he _ _ D1)
  have H2 := fun W hr he => Lib.hid (readUv_ok (w.heap.size + 1) (.slice A n k) l _ W hr e0 e1 t2 t3 p2 p3 he _ _ D2)
  have H3 := fun W hr he => Lib.hid (readUv_ok (w.heap.size + 1) (.slice A n k) l _ W hr e0 e1 t2 t3 p2 p3 he _ _ D3)
  have H4 := fun W hr he => Lib.hid (readUv_ok (w.heap.size + 1) (.slice A n k) l _ W hr e0 e1 t2 t3 p2 p3 he _ _ D4)
  clear D1 D2 D3 D4
  have g5 : IntKind.i64.wrap (d : Int) = (d : Int) := IntWalk.i64_in _ (by omega)
  have g6 : wrap64 (d : Int) = (d : Int) := IntWalk.wrap64_in _ (by omega)
  go_enter Tryd.func46, Tryd.ntmps46
  go_wp2_with fail
  generalize w.alloc pfZ = w0 at *
  refine HN.out.mono ?_
  rintro e w1 ⟨rfl, r1, hs1, hb1⟩
  rw [← hg] at hb1
  have b1 := below_next hA hb1
  have he1 := (he0.out.keep (S := fun _ => False) hb1.keep (fun _ h => h.elim)).mono (C := w.heap.size + 1) (by omega)
  have R1 := Lib.hid (row_below hb1 (block_of_row R0.out) R0.out)
  have Q1 := Lib.hid (H1 w1 r1 he1)
  have HE1 := Lib.hid he1
  clear hb1 r1 he1 HN he0 H1
  go_wp2_with fail
  refine Q1.out.mono ?_
  rintro e w2 ⟨rfl, r2, k2⟩
  have b2 := b1.trans (k2.below (B := w.heap.size) (fun k hk e => by omega) (by have := b1.size; omega))
  have he2 := HE1.out.keep k2 (fun k hk => by omega)
  have R2 := Lib.hid (k2.row R1.out (by omega))
  have Q2 := Lib.hid (H2 w2 r2 he2)
  have HE2 := Lib.hid he2
  clear k2 r2 he2 HE1 H2 R1 Q1
  go_wp2_with fail
  refine Q2.out.mono ?_
  rintro e w3 ⟨rfl, r3, k3⟩
  have b3 := b2.trans (k3.below (B := w.heap.size) (fun k hk e => by omega) (by have := b2.size; omega))
  have he3 := HE2.out.keep k3 (fun k hk => by omega)
  have R3 := Lib.hid (k3.row R2.out (by omega))
  have Q3 := Lib.hid (H3 w3 r3 he3)
  have HE3 := Lib.hid he3
  clear k3 r3 he3 HE2 H3 R2 Q2
  go_wp2_with fail
  refine Q3.out.mono ?_
  rintro e w4 ⟨rfl, r4, k4⟩
  have b4 := b3.trans (k4.below (B := w.heap.size) (fun k hk e => by omega) (by have := b3.size; omega))
  have he4 := HE3.out.keep k4 (fun k hk => by omega)
  have R4 := Lib.hid (k4.row R3.out (by omega))
  have Q4 := Lib.hid (H4 w4 r4 he4)
  clear k4 r4 he4 HE3 H4 R3 Q3
  go_wp2_with fail
  refine Q4.out.mono ?_
  rintro e w5 ⟨rfl, r5, k5⟩
  have b5 := b4.trans (k5.below (B := w.heap.size) (fun k hk e => by omega) (by have := b4.size; omega))
  have hr := k5.row R4.out (show ¬ w.heap.size = w.heap.size + 1 by omega)
  have c0 := cell_of_row' (cur := [_, _, _, _]) hr 0
  have c1 := cell_of_row' (cur := [_, _, _, _]) hr 1
  have c2 := cell_of_row' (cur := [_, _, _, _]) hr 2
  have c3 := cell_of_row' (cur := [_, _, _, _]) hr 3
  have f0 := frozen_of_row' (cur := [_, _, _, _]) hr 0
  have f1 := frozen_of_row' (cur := [_, _, _, _]) hr 1
  have f2 := frozen_of_row' (cur := [_, _, _, _]) hr 2
  have f3 := frozen_of_row' (cur := [_, _, _, _]) hr 3
  have HR := Lib.hid hr
  clear hr k5 r5 R4 Q4
  go_wp2
  refine bodyPost_ret (results_row_tmp rfl _ _ w.heap.size 91 #[.int .u64 a, .int .u64 b, .int .u64 c, .int .i64 d] (0, 0) _ rfl (by simp [World.setCell, Array.getElem?_modify, HR.out]) Tryd.underlying91 rfl (by kernel_rfl)) rfl ?_
  exact ⟨rfl, (((b5.setCell (Nat.le_refl _) _).setCell (Nat.le_refl _) _).setCell (Nat.le_refl _) _).setCell (Nat.le_refl _) _⟩
end Go.Proofs.YthfgnhgijgjggaaDoor
