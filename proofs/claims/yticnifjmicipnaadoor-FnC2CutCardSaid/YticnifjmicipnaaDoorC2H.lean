/- Contracts: a header of version 2 is read. -/
import Derived.Test.YticnifjmicipnaaDoorRdrB
import Derived.Test.YticnifjmicipnaaDoorShelf
import Derived.Test.YticnifjmicipnaaDoorHdPlain
import Derived.Test.YticnifjmicipnaaDoorMhB
namespace Go.Proofs.YticnifjmicipnaaDoor
open Go.RowKit

/-- Uint64 of a slice's first 8 bytes. -/
theorem u64LE (g o n c : Nat) (l : List UInt8) (w : World) (hn : 8 ≤ n) (hl : l.length = 8) (hc : ∀ j (h : j < l.length), w.cell? ⟨g, o + j, none⟩ = some (.int .u8 l[j].toNat)) :
    Calls Tryd.prog 31 #[.agg #[], .slice (some ⟨g, o, none⟩) n c] w fun e w' => e = .returned (.int .u64 (Lib.leNat l)) ∧ Below w.heap.size w w' := by
  match l, hl, hc with
  | [b0, b1, b2, b3, b4, b5, b6, b7], _, hc =>
    exact Tryd.binary_LE_Uint64 g o n c b0 b1 b2 b3 b4 b5 b6 b7 w hn (hc 0 (by simp)) (hc 1 (by simp)) (hc 2 (by simp)) (hc 3 (by simp)) (hc 4 (by simp)) (hc 5 (by simp)) (hc 6 (by simp)) (hc 7 (by simp))
theorem u64LE' (g o c : Nat) (l : List UInt8) (w : World) (hb : BS w (.slice (some ⟨g, o, none⟩) 8 c) l) :
    Calls Tryd.prog 31 #[.agg #[], .slice (some ⟨g, o, none⟩) 8 c] w fun e w' => e = .returned (.int .u64 (Lib.leNat l)) ∧ Below w.heap.size w w' := by
  have hl : l.length = 8 := hb.slice.1.symm
  obtain ⟨b', o', e, hc⟩ := hb.at_ (by omega)
  injection e with e
  injection e with e1 e2
  subst e1 e2
  exact u64LE _ _ 8 c l w (by omega) hl hc

set_option maxRecDepth 100000 in
set_option maxHeartbeats 1000000 in
theorem charRead_ok (p h : Nat) (v : Value) (l : List UInt8) (i : Nat) (x0 x1 x2 x3 x4 : Value) (t : TypeId) (w : World) (hr : Rdr w p v l i) (hp : p < w.heap.size) (hh : w.heap[h]? = some (.cells #[x0, x1, x2, x3, x4] t (0, 0))) (hhp : h ≠ p) (hv : OffBlock v l h) (hi : i + 16 ≤ l.length) :
    Calls Tryd.prog 29 #[.pointer (some ⟨h, 0, none⟩), rdV p] w fun e w' => e = .returned (.tuple #[.int .i64 16, .nilIface]) ∧ Rdr w' p v l (i + 16) ∧
      w'.heap[h]? = some (.cells #[.int .u64 (leAt l i 0), .int .u64 (leAt l i 1), x2, x3, x4] t (0, 0)) ∧ Keep (fun k => k = p ∨ k = h) w w' := by
  obtain ⟨w1, hmk, hb1, hs1, hrow⟩ := make_bytes (P := Tryd.prog) Tryd.underlying34 info_u8 w 16 (by omega)
  rw [show ((16 : Nat) : Int) = 16 from rfl] at hmk
  have HR := Lib.hid (rdFull_ok p w.heap.size 16 16 v l i _ _ w1 (hr.below hb1) hp hrow (by rw [List.length_replicate]) hi)
  have HHH := Lib.hid hh
  clear hr hrow hh
  go_enter Tryd.func29, Tryd.ntmps29
  go_wp2_with fail
  refine HR.out.mono ?_
  rintro e w2 ⟨rfl, hr2, hg2, hk2⟩
  go_wp2_with fail
  have hh2 : w2.heap[h]? = some (.cells #[x0, x1, x2, x3, x4] t (0, 0)) := hk2.row (row_below hb1 (block_of_row HHH.out) HHH.out) (fun e => by have := block_of_row HHH.out; omega)
  have hlen : ((l.drop i).take 16).length = 16 := by rw [List.length_take, List.length_drop]; omega
  have hbs2 : BS w2 (.slice (some ⟨w.heap.size, 0, none⟩) 16 16) ((l.drop i).take 16) := by have := BS.of_row (c := 16) hg2.out (by omega); rwa [hlen] at this
  have e1 : ((l.drop i).take 16).take 8 = (l.drop (i + 8 * 0)).take 8 := by rw [List.take_take]; rfl
  have e2 : ((l.drop i).take 16).drop 8 = (l.drop (i + 8 * 1)).take 8 := by rw [List.drop_take, List.drop_drop]
  obtain ⟨s1, _, hs1'⟩ := hbs2.to_ (P := Tryd.prog) Tryd.underlying34 info_u8 8 (by omega)
  obtain ⟨s2, hs2'⟩ := hbs2.from_ (P := Tryd.prog) Tryd.underlying34 info_u8 8 (by omega)
  have e3 : cutA (some ⟨w.heap.size, 0, none⟩) 16 8 = some ⟨w.heap.size, 8, none⟩ := by rw [cutA_own _ _ _ _ (by omega)]
  rw [e3] at s2 hs2'
  rw [e1] at hs1'
  rw [e2] at hs2'
  rw [show ((8 : Nat) : Int) = 8 from rfl] at s1 s2
  have hU1 : Hid (Calls Tryd.prog 31 #[.agg #[], .slice (some ⟨w.heap.size, 0, none⟩) 8 16] w2.drew fun e w' => e = .returned (.int .u64 (leAt l i 0)) ∧ Below w2.drew.heap.size w2.drew w') := Lib.hid (u64LE' _ _ 16 _ w2.drew hs1')
  have hh2' : w2.drew.heap[h]? = some (.cells #[x0, x1, x2, x3, x4] t (0, 0)) := hh2
  generalize hN0 : leAt l i 0 = N0 at hU1 ⊢
  clear hbs2 hs1' e1 e3 hlen hg2
  go_region_with (go_at_call 31; refine hU1.out.mono ?_; rintro e w3 ⟨rfl, hb3⟩; have hh3 := row_below hb3 (block_of_row hh2') hh2'; have c0 := (cell_of_row' (cur := [_, _, _, _, _]) hh3 0); have f0 := (frozen_of_row' (cur := [_, _, _, _, _]) hh3 0))
  have hlh := block_of_row HHH.out
  have hk3 : Keep (fun k => k = h) w2 (w3.setCell ⟨h, 0, none⟩ (.int .u64 N0)) := Keep.setCell (S := fun k => k = h) ((keep_drew _ w2).trans hb3.keep) (show h = h from rfl) _ _
  have hh4 : (w3.setCell ⟨h, 0, none⟩ (.int .u64 N0)).heap[h]? = some (.cells #[.int .u64 N0, x1, x2, x3, x4] t (0, 0)) := Lib.heap_setCell_same (i := 0) hh3 _
  clear hU1 s1 hh3 c0 f0 hb3 hh2 hh2'
  generalize w3.setCell ⟨h, 0, none⟩ (.int .u64 N0) = w4 at hk3 hh4 ⊢
  have hs4 : BS w4 (.slice (some ⟨w.heap.size, 8, none⟩) (16 - 8) (16 - 8)) ((l.drop (i + 8 * 1)).take 8) :=
    (BSo.keep (S := fun k => k = h) ⟨hs2', fun _ A n c a ea eb => by injection ea with ea; rw [← ea] at eb; injection eb with eb; subst eb; exact fun hh => by have : w.heap.size = h := hh; omega⟩ hk3).bs
  have hU2 : Hid (Calls Tryd.prog 31 #[.agg #[], .slice (some ⟨w.heap.size, 8, none⟩) 8 8] w4.drew fun e w' => e = .returned (.int .u64 (leAt l i 1)) ∧ Below w4.drew.heap.size w4.drew w') := Lib.hid (u64LE' _ _ 8 _ w4.drew hs4)
  have hh4' : w4.drew.heap[h]? = some (.cells #[.int .u64 N0, x1, x2, x3, x4] t (0, 0)) := hh4
  generalize hN1 : leAt l i 1 = N1 at hU2
  clear hs4 hs2' e2
  go_wp2_with fail
  go_region_with (go_at_call 31; refine hU2.out.mono ?_; rintro e w5 ⟨rfl, hb5⟩; have hh5 := row_below hb5 (block_of_row hh4') hh4'; have c0 := (cell_of_row' (cur := [_, _, _, _, _]) hh5 1); have f0 := (frozen_of_row' (cur := [_, _, _, _, _]) hh5 1))
  have hk5 : Keep (fun k => k = h) w4 (w5.setCell ⟨h, 1, none⟩ (.int .u64 N1)) := Keep.setCell (S := fun k => k = h) ((keep_drew _ w4).trans hb5.keep) (show h = h from rfl) _ _
  have hh6 : (w5.setCell ⟨h, 1, none⟩ (.int .u64 N1)).heap[h]? = some (.cells #[.int .u64 N0, .int .u64 N1, x2, x3, x4] t (0, 0)) := Lib.heap_setCell_same (i := 1) hh5 _
  generalize w5.setCell ⟨h, 1, none⟩ (.int .u64 N1) = w6 at hk5 hh6 ⊢
  have hk6 := hk3.trans hk5
  go_wp2
  go_ret2
  refine ⟨rfl, hr2.keep' hk6 hhp hv, ?_, ?_⟩
  · rw [hN0, hN1]; exact hh6
  · exact (hb1.keep.trans2 (T := fun k => k = p ∨ k = w.heap.size) (S := fun k => k = p ∨ k = h) hk2 (fun k hk h => by rcases h with h | h; exact Or.inl h; omega)).trans (hk6.mono fun _ _ h => Or.inr h)

set_option maxRecDepth 100000 in
set_option maxHeartbeats 1000000 in
theorem charRead_short (p h : Nat) (v : Value) (l : List UInt8) (i : Nat) (w : World) (hr : Rdr w p v l i) (hp : p < w.heap.size) (hi : l.length < i + 16) (e0 e1 : Addr) (he : ErrAt p w 6 e0) (he1 : ErrAt p w 7 e1) :
    Calls Tryd.prog 29 #[.pointer (some ⟨h, 0, none⟩), rdV p] w fun e w' => (∃ n a, e = .returned (.tuple #[.int .i64 n, errV a])) ∧ Rdr w' p v l l.length ∧ Keep (fun k => k = p) w w' := by
  obtain ⟨w1, hmk, hb1, hs1, hrow⟩ := make_bytes (P := Tryd.prog) Tryd.underlying34 info_u8 w 16 (by omega)
  rw [show ((16 : Nat) : Int) = 16 from rfl] at hmk
  have hle := hr.le
  have HR := Lib.hid (rdFull_short p w.heap.size 16 16 (l.length - i) v l i _ _ w1 (hr.below hb1) hp hrow (by rw [List.length_replicate]) (by omega) (by omega) rfl (by omega) e0 e1 (he.below hb1) (he1.below hb1))
  have hK : l.length - i < 16 := by omega
  generalize l.length - i = K at HR hK
  generalize (if K = 0 then e0 else e1) = a at HR
  clear hr hrow he he1 hle hi
  go_enter Tryd.func29, Tryd.ntmps29
  go_wp2_with fail
  refine HR.out.mono ?_
  rintro e w2 ⟨rfl, hr2, hk2⟩
  go_wp2
  go_ret2
  exact ⟨⟨_, _, rfl⟩, hr2, hb1.keep.trans2 hk2 (fun k hk h => by rcases h with h | h; exact h; omega)⟩

set_option maxRecDepth 100000 in
set_option maxHeartbeats 1000000 in
/-- Fewer than 40 bytes: an error. -/
theorem headRead_short (p h : Nat) (v : Value) (l : List UInt8) (i : Nat) (x0 x1 x2 x3 x4 : Value) (t : TypeId) (w : World) (hr : Rdr w p v l i) (hh : w.heap[h]? = some (.cells #[x0, x1, x2, x3, x4] t (0, 0))) (hhp : h < p) (hv : OffBlock v l h) (hi : l.length < i + 40)
    (e0 e1 : Addr) (he : ErrAt h w 6 e0) (he1 : ErrAt h w 7 e1) :
    Calls Tryd.prog 20 #[.pointer (some ⟨h, 0, none⟩), rdV p] w fun e w' => (∃ n a, e = .returned (.tuple #[.int .i64 n, errV a])) ∧ Keep (fun k => k = p ∨ k = h) w w' := by
  have hlh := block_of_row hh
  obtain ⟨r, hrow⟩ := hr.row
  have hlp := block_of_row hrow
  clear hrow r
  by_cases h16 : l.length < i + 16
  · have HR := Lib.hid (charRead_short p h v l i w hr hlp h16 e0 e1 (he.mono (by omega)) (he1.mono (by omega)))
    clear hr hi he he1 hh hv
    go_enter Tryd.func20, Tryd.ntmps20
    go_wp2_with fail
    refine HR.out.mono ?_
    rintro e w2 ⟨⟨n, a, rfl⟩, hr2, hk2⟩
    go_wp2
    go_ret2
    exact ⟨⟨_, _, rfl⟩, hk2.mono fun _ _ h => Or.inl h⟩
  · have HR := Lib.hid (charRead_ok p h v l i x0 x1 x2 x3 x4 t w hr hlp hh (by omega) hv (by omega))
    have hle := hr.le
    have HE := Lib.hid he
    have HE1 := Lib.hid he1
    clear hr hh hv he he1
    go_enter Tryd.func20, Tryd.ntmps20
    go_wp2_with fail
    refine HR.out.mono ?_
    rintro e w2 ⟨rfl, hr2, hh2, hk2⟩
    obtain ⟨w3, hmk, hb3, hs3, hrow⟩ := make_bytes (P := Tryd.prog) Tryd.underlying34 info_u8 w2 24 (by omega)
    rw [show ((24 : Nat) : Int) = 24 from rfl] at hmk
    have hlp2 := Nat.lt_of_lt_of_le hlp hk2.size
    have HR2 := Lib.hid (rdFull_short p w2.heap.size 24 24 (l.length - (i + 16)) v l (i + 16) _ _ w3 (hr2.below hb3) hlp2 hrow (by rw [List.length_replicate]) (by omega) (by omega) rfl (by omega) e0 e1
      (((HE.out.keep hk2 (fun k h => by omega)).below hb3).mono (by omega)) (((HE1.out.keep hk2 (fun k h => by omega)).below hb3).mono (by omega)))
    have hK : l.length - (i + 16) < 24 := by omega
    generalize l.length - (i + 16) = K at HR2 hK
    generalize (if K = 0 then e0 else e1) = a at HR2
    clear hr2 hrow hle hi hh2 HR
    go_wp2_with fail
    refine HR2.out.mono ?_
    rintro e w4 ⟨rfl, hr4, hk4⟩
    go_wp2
    go_ret2
    exact ⟨⟨_, _, rfl⟩, hk2.trans2 (hb3.keep.trans hk4) (fun k hk h => by rcases h with h | h; exact Or.inl h; have := hk2.size; omega)⟩
end Go.Proofs.YticnifjmicipnaaDoor
