/- Contracts, joined (LdB OrD CaA CaB SrA HdPlain). -/
import Derived.Test.YtglkonccinpdnaaGreatDoorJCi1
import Derived.Test.YtglkonccinpdnaaGreatDoorJCi5
import Derived.Laws.Rows
import Derived.Shelf.Abstract
import Derived.Lib.Endian
/- Contracts: util.LdRead over a reader of bytes, impl.LdRead. -/
namespace Go.Proofs.YtglkonccinpdnaaGreatDoor
open Go.RowKit

/-- A slice of the bytes l, and no error. -/
def BytesNil (l : List UInt8) (e : Ending) (w' : World) : Prop := ∃ A c, e = .returned (.tuple #[.slice A l.length c, .nilIface]) ∧ BS w' (.slice A l.length c) l

set_option maxRecDepth 100000 in
set_option maxHeartbeats 1000000 in
theorem ldRead_ok (p : Nat) (v : Value) (l : List UInt8) (i : Nat) (w : World) (hr : Rdr w p v l i) (e0 e1 : Addr) (t2 t3 : TypeId) (p2 p3 : Value) (he : UvErrs p w e0 e1 (.iface t2 p2) (.iface t3 p3)) (x m : Nat) (hd : uvDec (l.drop i) = .ok x m) (z : Bool) (most : Nat) (hm : x ≤ most) (hz : z = true → x ≠ 0) (hx : i + m + x ≤ l.length) (hl : l.length ≤ 281474976710656) :
    Calls Tryz.prog 61 #[rdV p, .bool z, .int .u64 most] w fun e w' => BytesNil ((l.drop (i + m)).take x) e w' ∧ Rdr w' p v l (i + m + x) ∧ Keep (fun k => k = p) w w' := by
  have HB := Lib.hid (ldSize_ok p v l i w hr e0 e1 t2 t3 p2 p3 he x m hd z most hm hz)
  have hpw : p < w.heap.size := by obtain ⟨r, hrow⟩ := hr.row; exact block_of_row hrow
  have hxs : x ≤ 281474976710656 := by omega
  have hlen : ((l.drop (i + m)).take x).length = x := by rw [List.length_take, List.length_drop]; omega
  have HL := Lib.hid hlen
  have HX := Lib.hid hx
  clear hr he hd hlen hz hm hx hl
  go_enter Tryz.func61, Tryz.ntmps61
  go_wp2_with fail
  refine HB.out.mono ?_
  rintro e w1 ⟨rfl, hr1, hk1⟩
  obtain ⟨w2, hmk, hb2, hs2, hrow⟩ := make_bytes64 (P := Tryz.prog) Tryz.underlying58 info_u8 w1 x hxs
  have hp1 : p < w1.heap.size := by have := hk1.size; omega
  have HF := Lib.hid (rdFull_ok p w1.heap.size x x v l (i + m) (List.replicate x (Value.int .u8 0)) 5 w2 (hr1.below hb2) hp1 hrow (by simp) HX.out)
  have HK1 := Lib.hid hk1
  have hs1 := hk1.size
  have HK2 := Lib.hid (hb2.keep (S := fun _ => False))
  clear hr1 hrow hk1 hs2
  generalize hg : w1.heap.size = g at *
  go_wp2_with fail
  refine HF.out.mono ?_
  rintro e w3 ⟨rfl, hr3, hrow3, hk3⟩
  have HBS := Lib.hid (BS.of_row hrow3.out (c := x) (by rw [HL.out]; exact Nat.le_refl _))
  have HR3 := Lib.hid hr3
  have hk : Keep (fun k => k = p) w w3 := HK1.out.trans2 (T := fun k => k = p ∨ k = g) ((HK2.out.mono (fun _ _ h => h.elim)).trans hk3) (fun k hk h => by omega)
  clear hr3 hrow3 hk3 hmk HF HB
  go_wp2
  go_ret2
  refine ⟨⟨some ⟨g, 0, none⟩, x, by rw [HL.out]; rfl, HBS.out⟩, HR3.out, hk⟩

set_option maxRecDepth 100000 in
set_option maxHeartbeats 1000000 in
theorem ldRead_end (p : Nat) (v : Value) (l : List UInt8) (i : Nat) (w : World) (hr : Rdr w p v l i) (e0 e1 : Addr) (t2 t3 : TypeId) (p2 p3 : Value) (he : UvErrs p w e0 e1 (.iface t2 p2) (.iface t3 p3)) (m : Nat) (hd : uvDec (l.drop i) = .ok 0 m) (most : Nat) :
    Calls Tryz.prog 61 #[rdV p, .bool true, .int .u64 most] w fun e w' => e = .returned (.tuple #[.slice none 0 0, errV e0]) ∧ Rdr w' p v l (i + m) ∧ Keep (fun k => k = p) w w' := by
  have HB := Lib.hid (ldSize_end p v l i w hr e0 e1 t2 t3 p2 p3 he m hd most)
  clear hr he hd
  go_enter Tryz.func61, Tryz.ntmps61
  go_wp2_with fail
  refine HB.out.mono ?_
  rintro e w1 ⟨rfl, hr1, hk1⟩
  have HR := Lib.hid hr1
  clear hr1
  go_wp2
  go_ret2
  exact ⟨rfl, HR.out, hk1⟩
end Go.Proofs.YtglkonccinpdnaaGreatDoor
/- Contracts: io.ReadFull, util.LdReadSize, util.LdRead over a reader at places. -/
namespace Go.Proofs.YtglkonccinpdnaaGreatDoor
open Go.RowKit

theorem nil_orsRead (a : Addr) (w : World) : (nilAhead 381 134 (.pointer (some a)) "Read").run Tryz.prog w = .ok (some false) w := by kernel_rfl
theorem method_orsRead (a : Addr) (w : World) : (method 381 134 (.pointer (some a)) "Read").run Tryz.prog w = .ok (158, .pointer (some a)) w := by kernel_rfl
theorem Ors.drew {w : World} {q p : Nat} {v : Value} {l : List UInt8} {i base off : Nat} (h : Ors w q p v l i base off) : Ors w.drew q p v l i base off := h.keep (S := fun _ => False) ((Keep.refl _ w).drewN 1) (fun _ h => h.elim)


set_option maxRecDepth 100000 in
set_option maxHeartbeats 1000000 in
theorem orsAtLeast_ok (q z0 base p g n c : Nat) (v : Value) (l : List UInt8) (i : Nat) (cur : List Value) (t : TypeId) (w : World) (hr : Ors w q p v l z0 base i) (hpg : p < g) (hgq : g ≠ q) (e0 : Addr) (he : ErrAt p w 0 e0)
    (hg : w.heap[g]? = some (.cells cur.toArray t (0, 0))) (hn0 : 0 < n) (hn : cur.length = n) (hi : i + n ≤ l.length) :
    Calls Tryz.prog 93 #[orsV q, .slice (some ⟨g, 0, none⟩) n c, .int .i64 n] w fun e w' => e = .returned (.tuple #[.int .i64 n, .nilIface]) ∧ Ors w' q p v l z0 base (i + n) ∧
      Hid (w'.heap[g]? = some (.cells (Lib.byteCells ((l.drop i).take n)).toArray t (0, 0))) ∧ Keep (fun k => k = g ∨ k = q) w w' := by
  have hL := hr.fits.2
  have HR := Lib.hid (orsRead_some q p g 0 n c v l z0 base i cur t (some ⟨g, 0, none⟩) w.drew hr.drew (by omega) hpg hgq hg (fun _ => rfl) (by omega) (by omega) e0 he.drew)
  have HRd := Lib.hid hr
  have b1 : n ≤ 9223372036854775807 := by omega
  have hmin : min n (l.length - i) = n := by omega
  have HMIN := Lib.hid hmin
  have hno : ¬ (l.length - i < n) := by omega
  rw [if_neg hno] at HR
  have hlen : (Lib.byteCells ((l.drop i).take n)).length = cur.length := by rw [Lib.byteCells_length, List.length_take, List.length_drop]; omega
  have HLEN := Lib.hid hlen
  clear hlen
  have hsl := fun W => run_from (P := Tryz.prog) Tryz.underlying58 info_u8 (some ⟨g, 0, none⟩) n c 0 (by omega) W
  have hmf : ∀ (fn : Fn) (first cap : Array Value) (w : World), (Instr.makeFunc fn first cap).run Tryz.prog w = .ok (.func fn first cap) w := fun _ _ _ _ => rfl
  clear hr hg hn hmin hi hL hno he
  go_enter Tryz.func93, Tryz.ntmps93
  go_wp2
  refine wp_loop_rounds 2 ?_
  rw [rounds_succ]
  go_wp2_with fail
  have hna := fun w => nil_orsRead ⟨q, 0, none⟩ w
  have hme := fun w => method_orsRead ⟨q, 0, none⟩ w
  go_region_with (go_at_call 158; refine HR.out.mono ?_; rw [HMIN.out]; rintro e w1 ⟨rfl, hr1, hg1, hk1⟩)
  go_wp2
  rw [rounds_succ]
  go_wp2
  go_ret2
  refine ⟨rfl, hr1, ?_, (keep_drew _ w).trans hk1⟩
  rw [splice_whole _ _ HLEN.out] at hg1
  exact hg1

set_option maxRecDepth 100000 in
set_option maxHeartbeats 1000000 in
theorem orsAtLeast_zero (q c : Nat) (A : Option Addr) (w : World) :
    Calls Tryz.prog 93 #[orsV q, .slice A 0 c, .int .i64 0] w fun e w' => e = .returned (.tuple #[.int .i64 0, .nilIface]) ∧ w' = w := by
  go_enter Tryz.func93, Tryz.ntmps93
  go_wp2
  refine wp_loop_rounds 1 ?_
  rw [rounds_succ]
  go_wp2
  go_ret2
  exact ⟨rfl, rfl⟩

/-- io.ReadFull where the bytes are there. -/
theorem orsFull_ok (q z0 base p g n c : Nat) (v : Value) (l : List UInt8) (i : Nat) (cur : List Value) (t : TypeId) (w : World) (hr : Ors w q p v l z0 base i) (hpg : p < g) (hgq : g ≠ q) (e0 : Addr) (he : ErrAt p w 0 e0)
    (hg : w.heap[g]? = some (.cells cur.toArray t (0, 0))) (hn : cur.length = n) (hi : i + n ≤ l.length) :
    Calls Tryz.prog 80 #[orsV q, .slice (some ⟨g, 0, none⟩) n c] w fun e w' => e = .returned (.tuple #[.int .i64 n, .nilIface]) ∧ Ors w' q p v l z0 base (i + n) ∧
      Hid (w'.heap[g]? = some (.cells (Lib.byteCells ((l.drop i).take n)).toArray t (0, 0))) ∧ Keep (fun k => k = g ∨ k = q) w w' := by
  rcases Nat.eq_zero_or_pos n with h0 | h0
  · subst h0
    have hcur : cur = [] := List.eq_nil_of_length_eq_zero hn
    subst hcur
    have HR := Lib.hid (orsAtLeast_zero q c (some ⟨g, 0, none⟩) w)
    have HR0 := Lib.hid hr
    have HG := Lib.hid hg
    clear hr hg hi hn he
    go_enter Tryz.func80, Tryz.ntmps80
    go_wp2_with fail
    refine HR.out.mono ?_
    rintro e w1 ⟨rfl, rfl⟩
    go_wp2
    go_ret2
    exact ⟨rfl, HR0.out, HG, Keep.refl _ _⟩
  · have HR := Lib.hid (orsAtLeast_ok q z0 base p g n c v l i cur t w hr hpg hgq e0 he hg h0 hn hi)
    have hL := hr.fits.2
    have b1 : n ≤ 9223372036854775807 := by omega
    clear hr hg hi hn he
    go_enter Tryz.func80, Tryz.ntmps80
    go_wp2_with fail
    refine HR.out.mono ?_
    rintro e w1 ⟨rfl, h1, h2, h3⟩
    go_wp2
    go_ret2
    exact ⟨rfl, h1, h2, h3⟩

set_option maxRecDepth 100000 in
set_option maxHeartbeats 1000000 in
theorem orsByteReader (p : Nat) (w : World) : Calls Tryz.prog 92 #[orsV p] w fun e w' => e = .returned (orsV p) ∧ w' = w := by
  have hta : ∀ W, (Instr.typeAssert (orsV p) 53 187 true).run Tryz.prog W = .ok (.tuple #[orsV p, .bool true]) W := fun W => by kernel_rfl
  go_enter Tryz.func92, Tryz.ntmps92
  go_wp2
  go_ret
  exact ⟨rfl, rfl⟩

set_option maxRecDepth 100000 in
set_option maxHeartbeats 1000000 in
theorem orsLdSize_ok (q z0 base p : Nat) (v : Value) (l : List UInt8) (i : Nat) (w : World) (hr : Ors w q p v l z0 base i) (hil0 : i ≤ l.length) (e0 e1 : Addr) (t2 t3 : TypeId) (p2 p3 : Value) (he : UvErrs p w e0 e1 (.iface t2 p2) (.iface t3 p3)) (x m : Nat) (hd : uvDec (l.drop i) = .ok x m) (z : Bool) (most : Nat) (hm : x ≤ most) (hz : z = true → x ≠ 0) :
    Calls Tryz.prog 79 #[orsV q, .bool z, .int .u64 most] w fun e w' => e = .returned (.tuple #[.int .u64 x, .nilIface]) ∧ Ors w' q p v l z0 base (i + m) ∧ Keep (fun k => k = q) w w' := by
  have HB := Lib.hid (orsUv q p v l z0 base i w hr hil0 e0 e1 t2 t3 p2 p3 he)
  rw [hd] at HB
  have HT := fun W => Lib.hid (orsByteReader q W)
  clear hr he hd
  go_enter Tryz.func79, Tryz.ntmps79
  go_wp2_with fail
  refine (HT _).out.mono ?_
  rintro e w1 ⟨rfl, rfl⟩
  go_wp2_with fail
  refine HB.out.mono ?_
  unfold UvR.rd UvR.at_
  dsimp only
  rintro e w2 ⟨rfl, ⟨j, rfl, hr2⟩, hk⟩
  have HR2 := Lib.hid hr2
  clear hr2 HB HT
  cases z
  · by_cases h0 : x = 0
    · subst h0
      go_wp2
      go_ret2
      exact ⟨rfl, HR2.out, hk⟩
    · have hx : ((x : Int) == 0) = false := by simp; omega
      go_wp2
      go_ret2
      exact ⟨rfl, HR2.out, hk⟩
  · have hx : ((x : Int) == 0) = false := by have := hz rfl; simp; omega
    go_wp2
    go_ret2
    exact ⟨rfl, HR2.out, hk⟩

set_option maxRecDepth 100000 in
set_option maxHeartbeats 1000000 in
theorem orsLdRead_ok (q z0 base p : Nat) (v : Value) (l : List UInt8) (i : Nat) (w : World) (hr : Ors w q p v l z0 base i) (hil0 : i ≤ l.length) (e0 e1 : Addr) (t2 t3 : TypeId) (p2 p3 : Value) (he : UvErrs p w e0 e1 (.iface t2 p2) (.iface t3 p3)) (x m : Nat) (hd : uvDec (l.drop i) = .ok x m) (z : Bool) (most : Nat) (hm : x ≤ most) (hz : z = true → x ≠ 0) (hx : i + m + x ≤ l.length) (hl : l.length ≤ 281474976710656) :
    Calls Tryz.prog 61 #[orsV q, .bool z, .int .u64 most] w fun e w' => BytesNil ((l.drop (i + m)).take x) e w' ∧ Ors w' q p v l z0 base (i + m + x) ∧ Keep (fun k => k = q) w w' := by
  have HB := Lib.hid (orsLdSize_ok q z0 base p v l i w hr hil0 e0 e1 t2 t3 p2 p3 he x m hd z most hm hz)
  have hpw : p < q := hr.lt
  have hqw : q < w.heap.size := by obtain ⟨r, hrow⟩ := hr.row; exact block_of_row hrow
  have HE := Lib.hid he.eof
  have hxs : x ≤ 281474976710656 := by omega
  have hlen : ((l.drop (i + m)).take x).length = x := by rw [List.length_take, List.length_drop]; omega
  have HL := Lib.hid hlen
  have HX := Lib.hid hx
  clear hr he hd hlen hz hm hx hl
  go_enter Tryz.func61, Tryz.ntmps61
  go_wp2_with fail
  refine HB.out.mono ?_
  rintro e w1 ⟨rfl, hr1, hk1⟩
  obtain ⟨w2, hmk, hb2, hs2, hrow⟩ := make_bytes64 (P := Tryz.prog) Tryz.underlying58 info_u8 w1 x hxs
  have hp1 : p < w1.heap.size := by have := hk1.size; omega
  have HF := Lib.hid (orsFull_ok q z0 base p w1.heap.size x x v l (i + m) (List.replicate x (Value.int .u8 0)) 5 w2 (hr1.below hb2) hp1 (by have := hk1.size; omega) e0 ((HE.out.keep hk1 (fun k h => by omega)).below hb2) hrow (by simp) HX.out)
  have HK1 := Lib.hid hk1
  have hs1 := hk1.size
  have HK2 := Lib.hid (hb2.keep (S := fun _ => False))
  clear hr1 hrow hk1 hs2
  generalize hg : w1.heap.size = g at *
  go_wp2_with fail
  refine HF.out.mono ?_
  rintro e w3 ⟨rfl, hr3, hrow3, hk3⟩
  have HBS := Lib.hid (BS.of_row hrow3.out (c := x) (by rw [HL.out]; exact Nat.le_refl _))
  have HR3 := Lib.hid hr3
  have hk : Keep (fun k => k = q) w w3 := HK1.out.trans2 (T := fun k => k = g ∨ k = q) ((HK2.out.mono (fun _ _ h => h.elim)).trans hk3) (fun k hk h => by omega)
  clear hr3 hrow3 hk3 hmk HF HB
  go_wp2
  go_ret2
  refine ⟨⟨some ⟨g, 0, none⟩, x, by rw [HL.out]; rfl, HBS.out⟩, HR3.out, hk⟩

end Go.Proofs.YtglkonccinpdnaaGreatDoor
/- Contracts: car.ApplyOptions, impl.options of no options. (genCaA.py) -/
namespace Go.Proofs.YtglkonccinpdnaaGreatDoor
open Go.RowKit

abbrev optsC (c m : Int) : Array Value := #[.int .u64 0, .int .u64 0, .int .u64 c, .bool false, .int .u64 m, .bool false, .bool false, .bool false, .int .u64 9223372036854775807, .bool false, .bool false, .int .u64 33554432, .int .u64 8388608]
abbrev optsO : Obj := .cells (optsC 0 0) 85 (0, 0)
abbrev optFn (f : FuncId) (b : Nat) : Value := .func (.func f) #[] #[.pointer (some ⟨b, 0, none⟩)]
theorem enters_o0 : ∀ args w, (callFunc 63 args).run Tryz.prog w = .ok (.enter 63 args) w := enters_of Tryz.func63 (by kernel_rfl) rfl
set_option maxRecDepth 100000 in
theorem optCall0 (o b : Nat) (w : World) (ho : w.heap[o]? = some optsO) (hb : w.cell? ⟨b, 0, none⟩ = some (.bool false)) :
    Calls Tryz.prog 63 #[.pointer (some ⟨o, 0, none⟩), .pointer (some ⟨b, 0, none⟩)] w fun e w' => e = .returned (.tuple #[]) ∧ w'.heap[o]? = some optsO ∧ Keep (fun k => k = o) w w' := by
  have c := cell_of_row' (cur := [_, _, _, _, _, _, _, _, _, _, _, _, _]) ho 3
  have f := frozen_of_row' (cur := [_, _, _, _, _, _, _, _, _, _, _, _, _]) ho 3
  have HO := Lib.hid ho
  clear ho
  go_enter Tryz.func63, Tryz.ntmps63
  go_wp2
  go_end0
  exact ⟨rfl, Lib.heap_setCell_same (i := 3) HO.out _, (Keep.refl (fun k => k = o) w).setCell (p := o) rfl 3 _⟩
set_option maxRecDepth 100000 in
theorem optMake0 (w : World) : Calls Tryz.prog 44 #[.bool false] w fun e w' => e = .returned (optFn 63 w.heap.size) ∧ w' = w.alloc (.cells #[.bool false] 4) := by
  go_enter Tryz.func44, Tryz.ntmps44
  go_wp2
  go_ret
  exact ⟨rfl, rfl⟩
theorem enters_o1 : ∀ args w, (callFunc 64 args).run Tryz.prog w = .ok (.enter 64 args) w := enters_of Tryz.func64 (by kernel_rfl) rfl
set_option maxRecDepth 100000 in
theorem optCall1 (o b : Nat) (w : World) (ho : w.heap[o]? = some optsO) (hb : w.cell? ⟨b, 0, none⟩ = some (.bool false)) :
    Calls Tryz.prog 64 #[.pointer (some ⟨o, 0, none⟩), .pointer (some ⟨b, 0, none⟩)] w fun e w' => e = .returned (.tuple #[]) ∧ w'.heap[o]? = some optsO ∧ Keep (fun k => k = o) w w' := by
  have c := cell_of_row' (cur := [_, _, _, _, _, _, _, _, _, _, _, _, _]) ho 5
  have f := frozen_of_row' (cur := [_, _, _, _, _, _, _, _, _, _, _, _, _]) ho 5
  have HO := Lib.hid ho
  clear ho
  go_enter Tryz.func64, Tryz.ntmps64
  go_wp2
  go_end0
  exact ⟨rfl, Lib.heap_setCell_same (i := 5) HO.out _, (Keep.refl (fun k => k = o) w).setCell (p := o) rfl 5 _⟩
set_option maxRecDepth 100000 in
theorem optMake1 (w : World) : Calls Tryz.prog 45 #[.bool false] w fun e w' => e = .returned (optFn 64 w.heap.size) ∧ w' = w.alloc (.cells #[.bool false] 4) := by
  go_enter Tryz.func45, Tryz.ntmps45
  go_wp2
  go_ret
  exact ⟨rfl, rfl⟩
theorem enters_o2 : ∀ args w, (callFunc 65 args).run Tryz.prog w = .ok (.enter 65 args) w := enters_of Tryz.func65 (by kernel_rfl) rfl
set_option maxRecDepth 100000 in
theorem optCall2 (o b : Nat) (w : World) (ho : w.heap[o]? = some optsO) (hb : w.cell? ⟨b, 0, none⟩ = some (.bool false)) :
    Calls Tryz.prog 65 #[.pointer (some ⟨o, 0, none⟩), .pointer (some ⟨b, 0, none⟩)] w fun e w' => e = .returned (.tuple #[]) ∧ w'.heap[o]? = some optsO ∧ Keep (fun k => k = o) w w' := by
  have c := cell_of_row' (cur := [_, _, _, _, _, _, _, _, _, _, _, _, _]) ho 6
  have f := frozen_of_row' (cur := [_, _, _, _, _, _, _, _, _, _, _, _, _]) ho 6
  have HO := Lib.hid ho
  clear ho
  go_enter Tryz.func65, Tryz.ntmps65
  go_wp2
  go_end0
  exact ⟨rfl, Lib.heap_setCell_same (i := 6) HO.out _, (Keep.refl (fun k => k = o) w).setCell (p := o) rfl 6 _⟩
set_option maxRecDepth 100000 in
theorem optMake2 (w : World) : Calls Tryz.prog 46 #[.bool false] w fun e w' => e = .returned (optFn 65 w.heap.size) ∧ w' = w.alloc (.cells #[.bool false] 4) := by
  go_enter Tryz.func46, Tryz.ntmps46
  go_wp2
  go_ret
  exact ⟨rfl, rfl⟩
theorem enters_o3 : ∀ args w, (callFunc 66 args).run Tryz.prog w = .ok (.enter 66 args) w := enters_of Tryz.func66 (by kernel_rfl) rfl
set_option maxRecDepth 100000 in
theorem optCall3 (o b : Nat) (w : World) (ho : w.heap[o]? = some optsO) (hb : w.cell? ⟨b, 0, none⟩ = some (.bool false)) :
    Calls Tryz.prog 66 #[.pointer (some ⟨o, 0, none⟩), .pointer (some ⟨b, 0, none⟩)] w fun e w' => e = .returned (.tuple #[]) ∧ w'.heap[o]? = some optsO ∧ Keep (fun k => k = o) w w' := by
  have c := cell_of_row' (cur := [_, _, _, _, _, _, _, _, _, _, _, _, _]) ho 7
  have f := frozen_of_row' (cur := [_, _, _, _, _, _, _, _, _, _, _, _, _]) ho 7
  have HO := Lib.hid ho
  clear ho
  go_enter Tryz.func66, Tryz.ntmps66
  go_wp2
  go_end0
  exact ⟨rfl, Lib.heap_setCell_same (i := 7) HO.out _, (Keep.refl (fun k => k = o) w).setCell (p := o) rfl 7 _⟩
set_option maxRecDepth 100000 in
theorem optMake3 (w : World) : Calls Tryz.prog 47 #[.bool false] w fun e w' => e = .returned (optFn 66 w.heap.size) ∧ w' = w.alloc (.cells #[.bool false] 4) := by
  go_enter Tryz.func47, Tryz.ntmps47
  go_wp2
  go_ret
  exact ⟨rfl, rfl⟩
theorem enters_o4 : ∀ args w, (callFunc 67 args).run Tryz.prog w = .ok (.enter 67 args) w := enters_of Tryz.func67 (by kernel_rfl) rfl
set_option maxRecDepth 100000 in
theorem optCall4 (o b : Nat) (w : World) (ho : w.heap[o]? = some optsO) (hb : w.cell? ⟨b, 0, none⟩ = some (.bool false)) :
    Calls Tryz.prog 67 #[.pointer (some ⟨o, 0, none⟩), .pointer (some ⟨b, 0, none⟩)] w fun e w' => e = .returned (.tuple #[]) ∧ w'.heap[o]? = some optsO ∧ Keep (fun k => k = o) w w' := by
  have c := cell_of_row' (cur := [_, _, _, _, _, _, _, _, _, _, _, _, _]) ho 9
  have f := frozen_of_row' (cur := [_, _, _, _, _, _, _, _, _, _, _, _, _]) ho 9
  have HO := Lib.hid ho
  clear ho
  go_enter Tryz.func67, Tryz.ntmps67
  go_wp2
  go_end0
  exact ⟨rfl, Lib.heap_setCell_same (i := 9) HO.out _, (Keep.refl (fun k => k = o) w).setCell (p := o) rfl 9 _⟩
set_option maxRecDepth 100000 in
theorem optMake4 (w : World) : Calls Tryz.prog 48 #[.bool false] w fun e w' => e = .returned (optFn 67 w.heap.size) ∧ w' = w.alloc (.cells #[.bool false] 4) := by
  go_enter Tryz.func48, Tryz.ntmps48
  go_wp2
  go_ret
  exact ⟨rfl, rfl⟩
theorem enters_o5 : ∀ args w, (callFunc 68 args).run Tryz.prog w = .ok (.enter 68 args) w := enters_of Tryz.func68 (by kernel_rfl) rfl
set_option maxRecDepth 100000 in
theorem optCall5 (o b : Nat) (w : World) (ho : w.heap[o]? = some optsO) (hb : w.cell? ⟨b, 0, none⟩ = some (.bool false)) :
    Calls Tryz.prog 68 #[.pointer (some ⟨o, 0, none⟩), .pointer (some ⟨b, 0, none⟩)] w fun e w' => e = .returned (.tuple #[]) ∧ w'.heap[o]? = some optsO ∧ Keep (fun k => k = o) w w' := by
  have c := cell_of_row' (cur := [_, _, _, _, _, _, _, _, _, _, _, _, _]) ho 10
  have f := frozen_of_row' (cur := [_, _, _, _, _, _, _, _, _, _, _, _, _]) ho 10
  have HO := Lib.hid ho
  clear ho
  go_enter Tryz.func68, Tryz.ntmps68
  go_wp2
  go_end0
  exact ⟨rfl, Lib.heap_setCell_same (i := 10) HO.out _, (Keep.refl (fun k => k = o) w).setCell (p := o) rfl 10 _⟩
set_option maxRecDepth 100000 in
theorem optMake5 (w : World) : Calls Tryz.prog 49 #[.bool false] w fun e w' => e = .returned (optFn 68 w.heap.size) ∧ w' = w.alloc (.cells #[.bool false] 4) := by
  go_enter Tryz.func49, Tryz.ntmps49
  go_wp2
  go_ret
  exact ⟨rfl, rfl⟩
theorem enters_o6 : ∀ args w, (callFunc 69 args).run Tryz.prog w = .ok (.enter 69 args) w := enters_of Tryz.func69 (by kernel_rfl) rfl
set_option maxRecDepth 100000 in
theorem optCall6 (o b : Nat) (w : World) (ho : w.heap[o]? = some optsO) (hb : w.cell? ⟨b, 0, none⟩ = some (.int .u64 0)) :
    Calls Tryz.prog 69 #[.pointer (some ⟨o, 0, none⟩), .pointer (some ⟨b, 0, none⟩)] w fun e w' => e = .returned (.tuple #[]) ∧ w'.heap[o]? = some optsO ∧ Keep (fun k => k = o) w w' := by
  have c := cell_of_row' (cur := [_, _, _, _, _, _, _, _, _, _, _, _, _]) ho 0
  have f := frozen_of_row' (cur := [_, _, _, _, _, _, _, _, _, _, _, _, _]) ho 0
  have HO := Lib.hid ho
  clear ho
  go_enter Tryz.func69, Tryz.ntmps69
  go_wp2
  go_end0
  exact ⟨rfl, Lib.heap_setCell_same (i := 0) HO.out _, (Keep.refl (fun k => k = o) w).setCell (p := o) rfl 0 _⟩
set_option maxRecDepth 100000 in
theorem optMake6 (w : World) : Calls Tryz.prog 50 #[.int .u64 0] w fun e w' => e = .returned (optFn 69 w.heap.size) ∧ w' = w.alloc (.cells #[.int .u64 0] 22) := by
  go_enter Tryz.func50, Tryz.ntmps50
  go_wp2
  go_ret
  exact ⟨rfl, rfl⟩
theorem enters_o7 : ∀ args w, (callFunc 70 args).run Tryz.prog w = .ok (.enter 70 args) w := enters_of Tryz.func70 (by kernel_rfl) rfl
set_option maxRecDepth 100000 in
theorem optCall7 (o b : Nat) (w : World) (ho : w.heap[o]? = some optsO) (hb : w.cell? ⟨b, 0, none⟩ = some (.int .u64 0)) :
    Calls Tryz.prog 70 #[.pointer (some ⟨o, 0, none⟩), .pointer (some ⟨b, 0, none⟩)] w fun e w' => e = .returned (.tuple #[]) ∧ w'.heap[o]? = some optsO ∧ Keep (fun k => k = o) w w' := by
  have c := cell_of_row' (cur := [_, _, _, _, _, _, _, _, _, _, _, _, _]) ho 1
  have f := frozen_of_row' (cur := [_, _, _, _, _, _, _, _, _, _, _, _, _]) ho 1
  have HO := Lib.hid ho
  clear ho
  go_enter Tryz.func70, Tryz.ntmps70
  go_wp2
  go_end0
  exact ⟨rfl, Lib.heap_setCell_same (i := 1) HO.out _, (Keep.refl (fun k => k = o) w).setCell (p := o) rfl 1 _⟩
set_option maxRecDepth 100000 in
theorem optMake7 (w : World) : Calls Tryz.prog 51 #[.int .u64 0] w fun e w' => e = .returned (optFn 70 w.heap.size) ∧ w' = w.alloc (.cells #[.int .u64 0] 22) := by
  go_enter Tryz.func51, Tryz.ntmps51
  go_wp2
  go_ret
  exact ⟨rfl, rfl⟩

theorem info_opt : (Tryz.prog.info? 85).map (·.size) = some 13 := by kernel_rfl
/-- The eight options, with what each holds, in blocks below B. -/
structure OptsAt (w : World) (B : Nat) (vo : Value) : Prop where
  at_ : ∃ g b0 b1 b2 b3 b4 b5 b6 b7 : Nat, vo = .slice (some ⟨g, 0, none⟩) 8 8 ∧ g < B ∧ (b0 < B ∧ b1 < B ∧ b2 < B ∧ b3 < B ∧ b4 < B ∧ b5 < B ∧ b6 < B ∧ b7 < B) ∧
    (w.cell? ⟨g, 0, none⟩ = some (optFn 63 b0) ∧ w.cell? ⟨g, 1, none⟩ = some (optFn 64 b1) ∧ w.cell? ⟨g, 2, none⟩ = some (optFn 65 b2) ∧ w.cell? ⟨g, 3, none⟩ = some (optFn 66 b3) ∧ w.cell? ⟨g, 4, none⟩ = some (optFn 67 b4) ∧ w.cell? ⟨g, 5, none⟩ = some (optFn 68 b5) ∧ w.cell? ⟨g, 6, none⟩ = some (optFn 69 b6) ∧ w.cell? ⟨g, 7, none⟩ = some (optFn 70 b7)) ∧ (w.cell? ⟨b0, 0, none⟩ = some (.bool false) ∧ w.cell? ⟨b1, 0, none⟩ = some (.bool false) ∧ w.cell? ⟨b2, 0, none⟩ = some (.bool false) ∧ w.cell? ⟨b3, 0, none⟩ = some (.bool false) ∧ w.cell? ⟨b4, 0, none⟩ = some (.bool false) ∧ w.cell? ⟨b5, 0, none⟩ = some (.bool false) ∧ w.cell? ⟨b6, 0, none⟩ = some (.int .u64 0) ∧ w.cell? ⟨b7, 0, none⟩ = some (.int .u64 0))
theorem OptsAt.keep {w w' : World} {B : Nat} {vo : Value} (h : OptsAt w B vo) {S : Nat → Prop} (hk : Keep S w w') (hS : ∀ k, S k → B ≤ k) : OptsAt w' B vo := by
  have hn : ∀ k, k < B → ¬ S k := fun k h1 h2 => Nat.lt_irrefl _ (Nat.lt_of_lt_of_le h1 (hS k h2))
  obtain ⟨g, b0, b1, b2, b3, b4, b5, b6, b7, e, hg, ⟨l0, l1, l2, l3, l4, l5, l6, l7⟩, ⟨f0, f1, f2, f3, f4, f5, f6, f7⟩, ⟨c0, c1, c2, c3, c4, c5, c6, c7⟩⟩ := h
  exact ⟨g, b0, b1, b2, b3, b4, b5, b6, b7, e, hg, ⟨l0, l1, l2, l3, l4, l5, l6, l7⟩, ⟨hk.cell f0 (hn _ hg), hk.cell f1 (hn _ hg), hk.cell f2 (hn _ hg), hk.cell f3 (hn _ hg), hk.cell f4 (hn _ hg), hk.cell f5 (hn _ hg), hk.cell f6 (hn _ hg), hk.cell f7 (hn _ hg)⟩, ⟨hk.cell c0 (hn _ l0), hk.cell c1 (hn _ l1), hk.cell c2 (hn _ l2), hk.cell c3 (hn _ l3), hk.cell c4 (hn _ l4), hk.cell c5 (hn _ l5), hk.cell c6 (hn _ l6), hk.cell c7 (hn _ l7)⟩⟩
theorem OptsAt.mono {w : World} {B B' : Nat} {vo : Value} (h : OptsAt w B vo) (hB : B ≤ B') : OptsAt w B' vo := by
  obtain ⟨g, b0, b1, b2, b3, b4, b5, b6, b7, e, hg, ⟨l0, l1, l2, l3, l4, l5, l6, l7⟩, hf, hc⟩ := h
  exact ⟨g, b0, b1, b2, b3, b4, b5, b6, b7, e, by omega, ⟨by omega, by omega, by omega, by omega, by omega, by omega, by omega, by omega⟩, hf, hc⟩

set_option maxRecDepth 100000 in
set_option maxHeartbeats 8000000 in
theorem applyOpts (vo : Value) (w : World) (h : OptsAt w w.heap.size vo) :
    Calls Tryz.prog 42 #[vo] w fun e w' => e = .returned (.agg (optsC 1025 2048)) ∧ Below w.heap.size w w' := by
  obtain ⟨g, b0, b1, b2, b3, b4, b5, b6, b7, rfl, hg, ⟨l0, l1, l2, l3, l4, l5, l6, l7⟩, hfc⟩ := h
  obtain ⟨z, hz⟩ : ∃ z : Obj, z = .cells #[.int .u64 0, .int .u64 0, .int .u64 0, .bool false, .int .u64 0, .bool false, .bool false, .bool false, .int .u64 0, .bool false, .bool false, .int .u64 0, .int .u64 0] 85 (0, 0) := ⟨_, rfl⟩
  have B1 : Below w.heap.size w ((w.alloc z).alloc optsO) := ((Below.refl _ _).alloc (Nat.le_refl _) _).alloc (by rw [World.size_alloc]; omega) _
  have r1 : ((w.alloc z).alloc optsO).heap[w.heap.size + 1]? = some optsO := by have := heap_alloc_new (w.alloc z) optsO; rwa [World.size_alloc] at this
  have r0 : ((w.alloc z).alloc optsO).heap[w.heap.size]? = some z := heap_alloc2_old _ _ _
  go_enter Tryz.func42, Tryz.ntmps42
  go_wp2
  rw [hz] at B1 r1 r0
  generalize (w.alloc _).alloc _ = W0 at B1 r1 r0 ⊢
  clear hz
  refine wp_loop_rounds 9 ?_
  obtain ⟨⟨f0, f1, f2, f3, f4, f5, f6, f7⟩, c0, c1, c2, c3, c4, c5, c6, c7⟩ := hfc
  have F0 := Lib.hid f0
  have C0 := Lib.hid c0
  have F1 := Lib.hid f1
  have C1 := Lib.hid c1
  have F2 := Lib.hid f2
  have C2 := Lib.hid c2
  have F3 := Lib.hid f3
  have C3 := Lib.hid c3
  have F4 := Lib.hid f4
  have C4 := Lib.hid c4
  have F5 := Lib.hid f5
  have C5 := Lib.hid c5
  have F6 := Lib.hid f6
  have C6 := Lib.hid c6
  have F7 := Lib.hid f7
  have C7 := Lib.hid c7
  clear f0 c0 f1 c1 f2 c2 f3 c3 f4 c4 f5 c5 f6 c6 f7 c7
  rw [rounds_succ]
  have q := below_cell B1 F0.out
  have HC := Lib.hid (optCall0 (w.heap.size + 1) b0 W0 r1 (below_cell B1 C0.out))
  go_wp2_with fail
  refine HC.out.mono ?_
  rintro e W1 ⟨rfl, s1, hk1⟩
  replace B1 : Below w.heap.size w W1 := B1.trans (hk1.below (fun k h1 h2 => by omega) B1.size)
  replace r0 := hk1.row r0 (by omega)
  replace r1 := s1
  clear s1 hk1 q HC
  go_wp2_with fail
  rw [rounds_succ]
  have q := below_cell B1 F1.out
  have HC := Lib.hid (optCall1 (w.heap.size + 1) b1 W1 r1 (below_cell B1 C1.out))
  go_wp2_with fail
  refine HC.out.mono ?_
  rintro e W2 ⟨rfl, s1, hk1⟩
  replace B1 : Below w.heap.size w W2 := B1.trans (hk1.below (fun k h1 h2 => by omega) B1.size)
  replace r0 := hk1.row r0 (by omega)
  replace r1 := s1
  clear s1 hk1 q HC
  go_wp2_with fail
  rw [rounds_succ]
  have q := below_cell B1 F2.out
  have HC := Lib.hid (optCall2 (w.heap.size + 1) b2 W2 r1 (below_cell B1 C2.out))
  go_wp2_with fail
  refine HC.out.mono ?_
  rintro e W3 ⟨rfl, s1, hk1⟩
  replace B1 : Below w.heap.size w W3 := B1.trans (hk1.below (fun k h1 h2 => by omega) B1.size)
  replace r0 := hk1.row r0 (by omega)
  replace r1 := s1
  clear s1 hk1 q HC
  go_wp2_with fail
  rw [rounds_succ]
  have q := below_cell B1 F3.out
  have HC := Lib.hid (optCall3 (w.heap.size + 1) b3 W3 r1 (below_cell B1 C3.out))
  go_wp2_with fail
  refine HC.out.mono ?_
  rintro e W4 ⟨rfl, s1, hk1⟩
  replace B1 : Below w.heap.size w W4 := B1.trans (hk1.below (fun k h1 h2 => by omega) B1.size)
  replace r0 := hk1.row r0 (by omega)
  replace r1 := s1
  clear s1 hk1 q HC
  go_wp2_with fail
  rw [rounds_succ]
  have q := below_cell B1 F4.out
  have HC := Lib.hid (optCall4 (w.heap.size + 1) b4 W4 r1 (below_cell B1 C4.out))
  go_wp2_with fail
  refine HC.out.mono ?_
  rintro e W5 ⟨rfl, s1, hk1⟩
  replace B1 : Below w.heap.size w W5 := B1.trans (hk1.below (fun k h1 h2 => by omega) B1.size)
  replace r0 := hk1.row r0 (by omega)
  replace r1 := s1
  clear s1 hk1 q HC
  go_wp2_with fail
  rw [rounds_succ]
  have q := below_cell B1 F5.out
  have HC := Lib.hid (optCall5 (w.heap.size + 1) b5 W5 r1 (below_cell B1 C5.out))
  go_wp2_with fail
  refine HC.out.mono ?_
  rintro e W6 ⟨rfl, s1, hk1⟩
  replace B1 : Below w.heap.size w W6 := B1.trans (hk1.below (fun k h1 h2 => by omega) B1.size)
  replace r0 := hk1.row r0 (by omega)
  replace r1 := s1
  clear s1 hk1 q HC
  go_wp2_with fail
  rw [rounds_succ]
  have q := below_cell B1 F6.out
  have HC := Lib.hid (optCall6 (w.heap.size + 1) b6 W6 r1 (below_cell B1 C6.out))
  go_wp2_with fail
  refine HC.out.mono ?_
  rintro e W7 ⟨rfl, s1, hk1⟩
  replace B1 : Below w.heap.size w W7 := B1.trans (hk1.below (fun k h1 h2 => by omega) B1.size)
  replace r0 := hk1.row r0 (by omega)
  replace r1 := s1
  clear s1 hk1 q HC
  go_wp2_with fail
  rw [rounds_succ]
  have q := below_cell B1 F7.out
  have HC := Lib.hid (optCall7 (w.heap.size + 1) b7 W7 r1 (below_cell B1 C7.out))
  go_wp2_with fail
  refine HC.out.mono ?_
  rintro e W8 ⟨rfl, s1, hk1⟩
  replace B1 : Below w.heap.size w W8 := B1.trans (hk1.below (fun k h1 h2 => by omega) B1.size)
  replace r0 := hk1.row r0 (by omega)
  replace r1 := s1
  clear s1 hk1 q HC
  go_wp2_with fail
  rw [rounds_succ]
  have k0 := cell_of_row' (cur := [_, _, _, _, _, _, _, _, _, _, _, _, _]) r1 0
  have m0 := cell_of_row' (cur := [_, _, _, _, _, _, _, _, _, _, _, _, _]) r0 0
  have n0 := frozen_of_row' (cur := [_, _, _, _, _, _, _, _, _, _, _, _, _]) r0 0
  have k1 := cell_of_row' (cur := [_, _, _, _, _, _, _, _, _, _, _, _, _]) r1 1
  have m1 := cell_of_row' (cur := [_, _, _, _, _, _, _, _, _, _, _, _, _]) r0 1
  have n1 := frozen_of_row' (cur := [_, _, _, _, _, _, _, _, _, _, _, _, _]) r0 1
  have k2 := cell_of_row' (cur := [_, _, _, _, _, _, _, _, _, _, _, _, _]) r1 2
  have m2 := cell_of_row' (cur := [_, _, _, _, _, _, _, _, _, _, _, _, _]) r0 2
  have n2 := frozen_of_row' (cur := [_, _, _, _, _, _, _, _, _, _, _, _, _]) r0 2
  have k3 := cell_of_row' (cur := [_, _, _, _, _, _, _, _, _, _, _, _, _]) r1 3
  have m3 := cell_of_row' (cur := [_, _, _, _, _, _, _, _, _, _, _, _, _]) r0 3
  have n3 := frozen_of_row' (cur := [_, _, _, _, _, _, _, _, _, _, _, _, _]) r0 3
  have k4 := cell_of_row' (cur := [_, _, _, _, _, _, _, _, _, _, _, _, _]) r1 4
  have m4 := cell_of_row' (cur := [_, _, _, _, _, _, _, _, _, _, _, _, _]) r0 4
  have n4 := frozen_of_row' (cur := [_, _, _, _, _, _, _, _, _, _, _, _, _]) r0 4
  have k5 := cell_of_row' (cur := [_, _, _, _, _, _, _, _, _, _, _, _, _]) r1 5
  have m5 := cell_of_row' (cur := [_, _, _, _, _, _, _, _, _, _, _, _, _]) r0 5
  have n5 := frozen_of_row' (cur := [_, _, _, _, _, _, _, _, _, _, _, _, _]) r0 5
  have k6 := cell_of_row' (cur := [_, _, _, _, _, _, _, _, _, _, _, _, _]) r1 6
  have m6 := cell_of_row' (cur := [_, _, _, _, _, _, _, _, _, _, _, _, _]) r0 6
  have n6 := frozen_of_row' (cur := [_, _, _, _, _, _, _, _, _, _, _, _, _]) r0 6
  have k7 := cell_of_row' (cur := [_, _, _, _, _, _, _, _, _, _, _, _, _]) r1 7
  have m7 := cell_of_row' (cur := [_, _, _, _, _, _, _, _, _, _, _, _, _]) r0 7
  have n7 := frozen_of_row' (cur := [_, _, _, _, _, _, _, _, _, _, _, _, _]) r0 7
  have k8 := cell_of_row' (cur := [_, _, _, _, _, _, _, _, _, _, _, _, _]) r1 8
  have m8 := cell_of_row' (cur := [_, _, _, _, _, _, _, _, _, _, _, _, _]) r0 8
  have n8 := frozen_of_row' (cur := [_, _, _, _, _, _, _, _, _, _, _, _, _]) r0 8
  have k9 := cell_of_row' (cur := [_, _, _, _, _, _, _, _, _, _, _, _, _]) r1 9
  have m9 := cell_of_row' (cur := [_, _, _, _, _, _, _, _, _, _, _, _, _]) r0 9
  have n9 := frozen_of_row' (cur := [_, _, _, _, _, _, _, _, _, _, _, _, _]) r0 9
  have k10 := cell_of_row' (cur := [_, _, _, _, _, _, _, _, _, _, _, _, _]) r1 10
  have m10 := cell_of_row' (cur := [_, _, _, _, _, _, _, _, _, _, _, _, _]) r0 10
  have n10 := frozen_of_row' (cur := [_, _, _, _, _, _, _, _, _, _, _, _, _]) r0 10
  have k11 := cell_of_row' (cur := [_, _, _, _, _, _, _, _, _, _, _, _, _]) r1 11
  have m11 := cell_of_row' (cur := [_, _, _, _, _, _, _, _, _, _, _, _, _]) r0 11
  have n11 := frozen_of_row' (cur := [_, _, _, _, _, _, _, _, _, _, _, _, _]) r0 11
  have k12 := cell_of_row' (cur := [_, _, _, _, _, _, _, _, _, _, _, _, _]) r1 12
  have m12 := cell_of_row' (cur := [_, _, _, _, _, _, _, _, _, _, _, _, _]) r0 12
  have n12 := frozen_of_row' (cur := [_, _, _, _, _, _, _, _, _, _, _, _, _]) r0 12
  have n13 := frozen_of_row' (cur := [_, _, _, _, _, _, _, _, _, _, _, _, _]) r1 2
  have n14 := frozen_of_row' (cur := [_, _, _, _, _, _, _, _, _, _, _, _, _]) r1 4
  have R0 := Lib.hid r0
  have HB := Lib.hid B1
  clear r0 r1 B1
  go_wp2
  refine bodyPost_ret (results_cell_row rfl _ _ w.heap.size 85 (optsC 1025 2048) (0, 0) _ ?h1 ?h2 Tryz.underlying85 rfl info_opt) ?h6 ?h7
  case h1 => rfl
  case h2 => simp [World.setCell, Array.getElem?_modify, R0.out, optsC]
  case h6 => rfl
  exact ⟨rfl, (((((((((((((((HB.out.setCell (show w.heap.size ≤ w.heap.size + 1 by omega) _).setCell (show w.heap.size ≤ w.heap.size + 1 by omega) _).setCell (by exact Nat.le_refl _) _).setCell (by exact Nat.le_refl _) _).setCell (by exact Nat.le_refl _) _).setCell (by exact Nat.le_refl _) _).setCell (by exact Nat.le_refl _) _).setCell (by exact Nat.le_refl _) _).setCell (by exact Nat.le_refl _) _).setCell (by exact Nat.le_refl _) _).setCell (by exact Nat.le_refl _) _).setCell (by exact Nat.le_refl _) _).setCell (by exact Nat.le_refl _) _).setCell (by exact Nat.le_refl _) _).setCell (by exact Nat.le_refl _) _)⟩
end Go.Proofs.YtglkonccinpdnaaGreatDoor
/- Contract: impl.options of no options. (genCaB.py) -/
namespace Go.Proofs.YtglkonccinpdnaaGreatDoor
open Go.RowKit
attribute [local go_sem] gives givesUpon evalOf look wants asBool

abbrev optsIn : Value := .agg #[.bool false, .bool false, .bool false, .bool false, .bool false, .bool false, .int .u64 0, .int .u64 0, .int .u64 0, .int .u64 0, .int .u64 0, .int .u64 0]
/-- v is an option's function, with what it holds. -/
def OptV (f : FuncId) (x : Value) (v : Value) (w : World) : Prop := ∃ b, v = optFn f b ∧ w.cell? ⟨b, 0, none⟩ = some x
theorem OptV.on {f : FuncId} {x : Value} (v : Value) (w1 w2 : World) (hb : Below w1.heap.size w1 w2) (h : OptV f x v w1) : OptV f x v w2 := by
  obtain ⟨b, e, h⟩ := h
  exact ⟨b, e, below_cell hb h⟩
theorem OptsAt.on (v : Value) (w1 w2 : World) (hb : Below w1.heap.size w1 w2) (h : OptsAt w1 w1.heap.size v) : OptsAt w2 w2.heap.size v := (h.keep (S := fun _ => False) hb.keep (fun _ h => h.elim)).mono hb.size
theorem OptsAt.build {w : World} {t : TypeId} {v0 v1 v2 v3 v4 v5 v6 v7 : Value} (h0 : OptV 63 (.bool false) v0 w) (h1 : OptV 64 (.bool false) v1 w) (h2 : OptV 65 (.bool false) v2 w) (h3 : OptV 66 (.bool false) v3 w) (h4 : OptV 67 (.bool false) v4 w) (h5 : OptV 68 (.bool false) v5 w) (h6 : OptV 69 (.int .u64 0) v6 w) (h7 : OptV 70 (.int .u64 0) v7 w) : OptsAt (w.alloc (.cells #[v0, v1, v2, v3, v4, v5, v6, v7] t)) (w.alloc (.cells #[v0, v1, v2, v3, v4, v5, v6, v7] t)).heap.size (.slice (some ⟨w.heap.size, 0, none⟩) 8 8) := by
  obtain ⟨b0, rfl, c0⟩ := h0
  obtain ⟨b1, rfl, c1⟩ := h1
  obtain ⟨b2, rfl, c2⟩ := h2
  obtain ⟨b3, rfl, c3⟩ := h3
  obtain ⟨b4, rfl, c4⟩ := h4
  obtain ⟨b5, rfl, c5⟩ := h5
  obtain ⟨b6, rfl, c6⟩ := h6
  obtain ⟨b7, rfl, c7⟩ := h7
  have hb : Below w.heap.size w (w.alloc (.cells #[optFn 63 b0, optFn 64 b1, optFn 65 b2, optFn 66 b3, optFn 67 b4, optFn 68 b5, optFn 69 b6, optFn 70 b7] t)) := (Below.refl _ _).alloc (Nat.le_refl _) _
  have hr := heap_alloc_new w (.cells #[optFn 63 b0, optFn 64 b1, optFn 65 b2, optFn 66 b3, optFn 67 b4, optFn 68 b5, optFn 69 b6, optFn 70 b7] t)
  exact ⟨w.heap.size, b0, b1, b2, b3, b4, b5, b6, b7, rfl, by rw [World.size_alloc]; omega, ⟨Nat.lt_of_lt_of_le (block_of_cell c0) hb.size, Nat.lt_of_lt_of_le (block_of_cell c1) hb.size, Nat.lt_of_lt_of_le (block_of_cell c2) hb.size, Nat.lt_of_lt_of_le (block_of_cell c3) hb.size, Nat.lt_of_lt_of_le (block_of_cell c4) hb.size, Nat.lt_of_lt_of_le (block_of_cell c5) hb.size, Nat.lt_of_lt_of_le (block_of_cell c6) hb.size, Nat.lt_of_lt_of_le (block_of_cell c7) hb.size⟩, ⟨cell_of_row' (cur := [_, _, _, _, _, _, _, _]) hr 0, cell_of_row' (cur := [_, _, _, _, _, _, _, _]) hr 1, cell_of_row' (cur := [_, _, _, _, _, _, _, _]) hr 2, cell_of_row' (cur := [_, _, _, _, _, _, _, _]) hr 3, cell_of_row' (cur := [_, _, _, _, _, _, _, _]) hr 4, cell_of_row' (cur := [_, _, _, _, _, _, _, _]) hr 5, cell_of_row' (cur := [_, _, _, _, _, _, _, _]) hr 6, cell_of_row' (cur := [_, _, _, _, _, _, _, _]) hr 7⟩, ⟨below_cell hb c0, below_cell hb c1, below_cell hb c2, below_cell hb c3, below_cell hb c4, below_cell hb c5, below_cell hb c6, below_cell hb c7⟩⟩

set_option linter.constructorNameAsVariable false in
set_option maxRecDepth 100000 in
set_option maxHeartbeats 8000000 in
theorem options_none (w : World) : Calls Tryz.prog 28 #[optsIn] w fun e w' => ∃ vo, e = .returned vo ∧ OptsAt w' w'.heap.size vo ∧ Below w.heap.size w w' := by
  have B1 : Below w.heap.size w (w.alloc (.cells #[.bool false, .bool false, .bool false, .bool false, .bool false, .bool false, .int .u64 0, .int .u64 0, .int .u64 0, .int .u64 0, .int .u64 0, .int .u64 0] 30)) := (Below.refl _ _).alloc (Nat.le_refl _) _
  have r1 := heap_alloc_new w (.cells #[.bool false, .bool false, .bool false, .bool false, .bool false, .bool false, .int .u64 0, .int .u64 0, .int .u64 0, .int .u64 0, .int .u64 0, .int .u64 0] 30)
  have M0 : ∀ W, Hid (Calls Tryz.prog 44 #[.bool false] W fun e w' => ∃ v, e = .returned v ∧ Below W.heap.size W w' ∧ OptV 63 (.bool false) v w') := fun W => Lib.hid ((optMake0 W).mono (by
    rintro e w' ⟨rfl, rfl⟩
    exact ⟨_, rfl, (Below.refl _ _).alloc (Nat.le_refl _) _, W.heap.size, rfl, cell_of_row' (cur := [_]) (heap_alloc_new W _) 0⟩))
  have M1 : ∀ W, Hid (Calls Tryz.prog 45 #[.bool false] W fun e w' => ∃ v, e = .returned v ∧ Below W.heap.size W w' ∧ OptV 64 (.bool false) v w') := fun W => Lib.hid ((optMake1 W).mono (by
    rintro e w' ⟨rfl, rfl⟩
    exact ⟨_, rfl, (Below.refl _ _).alloc (Nat.le_refl _) _, W.heap.size, rfl, cell_of_row' (cur := [_]) (heap_alloc_new W _) 0⟩))
  have M2 : ∀ W, Hid (Calls Tryz.prog 46 #[.bool false] W fun e w' => ∃ v, e = .returned v ∧ Below W.heap.size W w' ∧ OptV 65 (.bool false) v w') := fun W => Lib.hid ((optMake2 W).mono (by
    rintro e w' ⟨rfl, rfl⟩
    exact ⟨_, rfl, (Below.refl _ _).alloc (Nat.le_refl _) _, W.heap.size, rfl, cell_of_row' (cur := [_]) (heap_alloc_new W _) 0⟩))
  have M3 : ∀ W, Hid (Calls Tryz.prog 47 #[.bool false] W fun e w' => ∃ v, e = .returned v ∧ Below W.heap.size W w' ∧ OptV 66 (.bool false) v w') := fun W => Lib.hid ((optMake3 W).mono (by
    rintro e w' ⟨rfl, rfl⟩
    exact ⟨_, rfl, (Below.refl _ _).alloc (Nat.le_refl _) _, W.heap.size, rfl, cell_of_row' (cur := [_]) (heap_alloc_new W _) 0⟩))
  have M4 : ∀ W, Hid (Calls Tryz.prog 48 #[.bool false] W fun e w' => ∃ v, e = .returned v ∧ Below W.heap.size W w' ∧ OptV 67 (.bool false) v w') := fun W => Lib.hid ((optMake4 W).mono (by
    rintro e w' ⟨rfl, rfl⟩
    exact ⟨_, rfl, (Below.refl _ _).alloc (Nat.le_refl _) _, W.heap.size, rfl, cell_of_row' (cur := [_]) (heap_alloc_new W _) 0⟩))
  have M5 : ∀ W, Hid (Calls Tryz.prog 49 #[.bool false] W fun e w' => ∃ v, e = .returned v ∧ Below W.heap.size W w' ∧ OptV 68 (.bool false) v w') := fun W => Lib.hid ((optMake5 W).mono (by
    rintro e w' ⟨rfl, rfl⟩
    exact ⟨_, rfl, (Below.refl _ _).alloc (Nat.le_refl _) _, W.heap.size, rfl, cell_of_row' (cur := [_]) (heap_alloc_new W _) 0⟩))
  have M6 : ∀ W, Hid (Calls Tryz.prog 50 #[.int .u64 0] W fun e w' => ∃ v, e = .returned v ∧ Below W.heap.size W w' ∧ OptV 69 (.int .u64 0) v w') := fun W => Lib.hid ((optMake6 W).mono (by
    rintro e w' ⟨rfl, rfl⟩
    exact ⟨_, rfl, (Below.refl _ _).alloc (Nat.le_refl _) _, W.heap.size, rfl, cell_of_row' (cur := [_]) (heap_alloc_new W _) 0⟩))
  have M7 : ∀ W, Hid (Calls Tryz.prog 51 #[.int .u64 0] W fun e w' => ∃ v, e = .returned v ∧ Below W.heap.size W w' ∧ OptV 70 (.int .u64 0) v w') := fun W => Lib.hid ((optMake7 W).mono (by
    rintro e w' ⟨rfl, rfl⟩
    exact ⟨_, rfl, (Below.refl _ _).alloc (Nat.le_refl _) _, W.heap.size, rfl, cell_of_row' (cur := [_]) (heap_alloc_new W _) 0⟩))
  go_enter Tryz.func28, Tryz.ntmps28
  go_wp2_with fail
  obtain ⟨wd, hwd⟩ : ∃ wd, wd = (w.alloc (.cells #[.bool false, .bool false, .bool false, .bool false, .bool false, .bool false, .int .u64 0, .int .u64 0, .int .u64 0, .int .u64 0, .int .u64 0, .int .u64 0] 30)).drew := ⟨_, rfl⟩
  have h0 : Below w.heap.size w wd := by rw [hwd]; exact B1.drewN 1
  have hr : wd.heap[w.heap.size]? = some (.cells #[.bool false, .bool false, .bool false, .bool false, .bool false, .bool false, .int .u64 0, .int .u64 0, .int .u64 0, .int .u64 0, .int .u64 0, .int .u64 0] 30 (0, 0)) := by rw [hwd]; exact r1
  have K0 : ∀ W, Below wd.heap.size wd W → W.cell? ⟨w.heap.size, 0, none⟩ = some (.bool false) := fun W h => cell_of_row' (cur := [_, _, _, _, _, _, _, _, _, _, _, _]) (row_below h (block_of_row hr) hr) 0
  have K1 : ∀ W, Below wd.heap.size wd W → W.cell? ⟨w.heap.size, 1, none⟩ = some (.bool false) := fun W h => cell_of_row' (cur := [_, _, _, _, _, _, _, _, _, _, _, _]) (row_below h (block_of_row hr) hr) 1
  have K2 : ∀ W, Below wd.heap.size wd W → W.cell? ⟨w.heap.size, 2, none⟩ = some (.bool false) := fun W h => cell_of_row' (cur := [_, _, _, _, _, _, _, _, _, _, _, _]) (row_below h (block_of_row hr) hr) 2
  have K3 : ∀ W, Below wd.heap.size wd W → W.cell? ⟨w.heap.size, 3, none⟩ = some (.bool false) := fun W h => cell_of_row' (cur := [_, _, _, _, _, _, _, _, _, _, _, _]) (row_below h (block_of_row hr) hr) 3
  have K4 : ∀ W, Below wd.heap.size wd W → W.cell? ⟨w.heap.size, 4, none⟩ = some (.bool false) := fun W h => cell_of_row' (cur := [_, _, _, _, _, _, _, _, _, _, _, _]) (row_below h (block_of_row hr) hr) 4
  have K5 : ∀ W, Below wd.heap.size wd W → W.cell? ⟨w.heap.size, 5, none⟩ = some (.bool false) := fun W h => cell_of_row' (cur := [_, _, _, _, _, _, _, _, _, _, _, _]) (row_below h (block_of_row hr) hr) 5
  have K6 : ∀ W, Below wd.heap.size wd W → W.cell? ⟨w.heap.size, 6, none⟩ = some (.int .u64 0) := fun W h => cell_of_row' (cur := [_, _, _, _, _, _, _, _, _, _, _, _]) (row_below h (block_of_row hr) hr) 6
  have K7 : ∀ W, Below wd.heap.size wd W → W.cell? ⟨w.heap.size, 7, none⟩ = some (.int .u64 0) := fun W h => cell_of_row' (cur := [_, _, _, _, _, _, _, _, _, _, _, _]) (row_below h (block_of_row hr) hr) 7
  have K8 : ∀ W, Below wd.heap.size wd W → W.cell? ⟨w.heap.size, 8, none⟩ = some (.int .u64 0) := fun W h => cell_of_row' (cur := [_, _, _, _, _, _, _, _, _, _, _, _]) (row_below h (block_of_row hr) hr) 8
  have K9 : ∀ W, Below wd.heap.size wd W → W.cell? ⟨w.heap.size, 9, none⟩ = some (.int .u64 0) := fun W h => cell_of_row' (cur := [_, _, _, _, _, _, _, _, _, _, _, _]) (row_below h (block_of_row hr) hr) 9
  have K10 : ∀ W, Below wd.heap.size wd W → W.cell? ⟨w.heap.size, 10, none⟩ = some (.int .u64 0) := fun W h => cell_of_row' (cur := [_, _, _, _, _, _, _, _, _, _, _, _]) (row_below h (block_of_row hr) hr) 10
  have K11 : ∀ W, Below wd.heap.size wd W → W.cell? ⟨w.heap.size, 11, none⟩ = some (.int .u64 0) := fun W h => cell_of_row' (cur := [_, _, _, _, _, _, _, _, _, _, _, _]) (row_below h (block_of_row hr) hr) 11
  clear B1 r1
  refine wp_region_below [some 4, some 5, some 6, some 7, some 8, some 9, some 10, some 11, some 12, some 13, some 14, some 15, some 16, some 17, some 18, some 19, some 20, some 21, some 22, some 23, some 24, some 25, some 26, some 27, some 28, some 3] (by kernel_rfl) (by kernel_rfl) (by kernel_rfl) (by kernel_rfl) ?_
  rw [← hwd]
  clear hwd
  refine Each.fixed ?_ (fun u W hle hk => ?_) ?_
  rotate_left
  · (go_simp
     exact rfl)
  refine Each.fixed ?_ (fun u W hle hk => ?_) ?_
  rotate_left
  · (simp [knows, factAt, Region.binds] at hk
     have hc := K0 W hle
     go_simp
     exact rfl)
  refine Each.made (OptV 63 (.bool false)) OptV.on (fun u W hle hk => ?_) ?_
  · (simp [knows, factAt, Region.binds] at hk
     go_simp
     with_reducible exact (M0 _).out)
  refine Each.fixed ?_ (fun u W hle hk => ?_) ?_
  rotate_left
  · (go_simp
     exact rfl)
  refine Each.fixed ?_ (fun u W hle hk => ?_) ?_
  rotate_left
  · (simp [knows, factAt, Region.binds] at hk
     have hc := K1 W hle
     go_simp
     exact rfl)
  refine Each.made (OptV 64 (.bool false)) OptV.on (fun u W hle hk => ?_) ?_
  · (simp [knows, factAt, Region.binds] at hk
     go_simp
     with_reducible exact (M1 _).out)
  refine Each.fixed ?_ (fun u W hle hk => ?_) ?_
  rotate_left
  · (go_simp
     exact rfl)
  refine Each.fixed ?_ (fun u W hle hk => ?_) ?_
  rotate_left
  · (simp [knows, factAt, Region.binds] at hk
     have hc := K2 W hle
     go_simp
     exact rfl)
  refine Each.made (OptV 65 (.bool false)) OptV.on (fun u W hle hk => ?_) ?_
  · (simp [knows, factAt, Region.binds] at hk
     go_simp
     with_reducible exact (M2 _).out)
  refine Each.fixed ?_ (fun u W hle hk => ?_) ?_
  rotate_left
  · (go_simp
     exact rfl)
  refine Each.fixed ?_ (fun u W hle hk => ?_) ?_
  rotate_left
  · (simp [knows, factAt, Region.binds] at hk
     have hc := K3 W hle
     go_simp
     exact rfl)
  refine Each.made (OptV 66 (.bool false)) OptV.on (fun u W hle hk => ?_) ?_
  · (simp [knows, factAt, Region.binds] at hk
     go_simp
     with_reducible exact (M3 _).out)
  refine Each.fixed ?_ (fun u W hle hk => ?_) ?_
  rotate_left
  · (go_simp
     exact rfl)
  refine Each.fixed ?_ (fun u W hle hk => ?_) ?_
  rotate_left
  · (simp [knows, factAt, Region.binds] at hk
     have hc := K4 W hle
     go_simp
     exact rfl)
  refine Each.made (OptV 67 (.bool false)) OptV.on (fun u W hle hk => ?_) ?_
  · (simp [knows, factAt, Region.binds] at hk
     go_simp
     with_reducible exact (M4 _).out)
  refine Each.fixed ?_ (fun u W hle hk => ?_) ?_
  rotate_left
  · (go_simp
     exact rfl)
  refine Each.fixed ?_ (fun u W hle hk => ?_) ?_
  rotate_left
  · (simp [knows, factAt, Region.binds] at hk
     have hc := K5 W hle
     go_simp
     exact rfl)
  refine Each.made (OptV 68 (.bool false)) OptV.on (fun u W hle hk => ?_) ?_
  · (simp [knows, factAt, Region.binds] at hk
     go_simp
     with_reducible exact (M5 _).out)
  refine Each.fixed ?_ (fun u W hle hk => ?_) ?_
  rotate_left
  · (go_simp
     exact rfl)
  refine Each.fixed ?_ (fun u W hle hk => ?_) ?_
  rotate_left
  · (simp [knows, factAt, Region.binds] at hk
     have hc := K6 W hle
     go_simp
     exact rfl)
  refine Each.made (OptV 69 (.int .u64 0)) OptV.on (fun u W hle hk => ?_) ?_
  · (simp [knows, factAt, Region.binds] at hk
     go_simp
     with_reducible exact (M6 _).out)
  refine Each.fixed ?_ (fun u W hle hk => ?_) ?_
  rotate_left
  · (go_simp
     exact rfl)
  refine Each.fixed ?_ (fun u W hle hk => ?_) ?_
  rotate_left
  · (simp [knows, factAt, Region.binds] at hk
     have hc := K7 W hle
     go_simp
     exact rfl)
  refine Each.made (OptV 70 (.int .u64 0)) OptV.on (fun u W hle hk => ?_) ?_
  · (simp [knows, factAt, Region.binds] at hk
     go_simp
     with_reducible exact (M7 _).out)
  refine Each.made (fun v W => OptsAt W W.heap.size v) OptsAt.on (fun u W hle hk => ?_) ?_
  · simp [knows, factAt, Region.binds] at hk
    obtain ⟨⟨b0, e0, c0⟩, ⟨b1, e1, c1⟩, ⟨b2, e2, c2⟩, ⟨b3, e3, c3⟩, ⟨b4, e4, c4⟩, ⟨b5, e5, c5⟩, ⟨b6, e6, c6⟩, ⟨b7, e7, c7⟩⟩ := hk
    have d0 := Lib.hid c0
    clear c0
    have d1 := Lib.hid c1
    clear c1
    have d2 := Lib.hid c2
    clear c2
    have d3 := Lib.hid c3
    clear c3
    have d4 := Lib.hid c4
    clear c4
    have d5 := Lib.hid c5
    clear c5
    have d6 := Lib.hid c6
    clear c6
    have d7 := Lib.hid c7
    clear c7
    go_simp
    have h := OptsAt.build (t := 123) ⟨b0, rfl, d0.out⟩ ⟨b1, rfl, d1.out⟩ ⟨b2, rfl, d2.out⟩ ⟨b3, rfl, d3.out⟩ ⟨b4, rfl, d4.out⟩ ⟨b5, rfl, d5.out⟩ ⟨b6, rfl, d6.out⟩ ⟨b7, rfl, d7.out⟩
    rw [World.size_alloc] at h
    exact ⟨(Below.refl _ _).alloc (Nat.le_refl _) _, h⟩
  refine Each.made (fun v W => OptsAt W W.heap.size v) OptsAt.on (fun u W hle hk => ?_) ?_
  · (simp [knows, factAt, Region.binds] at hk
     have hq := Lib.hid hk
     clear hk
     go_simp
     exact ⟨Below.refl _ _, hq.out.1⟩)
  intro u W hle hf
  simp [allFacts] at hf
  obtain ⟨f0, f1, f2, f3, f4, f5, f6, f7, f8, f9, f10, f11, f12, f13, f14, f15, f16, f17, f18, f19, f20, f21, f22, f23, f24, f25⟩ := hf
  have ho : OptsAt W W.heap.size (u 25) := f25
  have hb2 : Below w.heap.size w W := h0.trans (hle.mono h0.size)
  have q8 := K8 W hle
  have q9 := K9 W hle
  have q10 := K10 W hle
  have q11 := K11 W hle
  obtain ⟨g, hvo⟩ : ∃ g : Nat, u 25 = .slice (some ⟨g, 0, none⟩) 8 8 := by
    obtain ⟨g, _, _, _, _, _, _, _, _, e, _⟩ := ho.at_
    exact ⟨g, e⟩
  rw [hvo] at ho
  have HO := Lib.hid ho
  have HB := Lib.hid hb2
  clear f0 f1 f2 f3 f4 f5 f6 f7 f8 f9 f10 f11 f12 f13 f14 f15 f16 f17 f18 f19 f20 f21 f22 f23 f24 f25 K0 K1 K2 K3 K4 K5 K6 K7 K8 K9 K10 K11 hr h0 hle ho M0 M1 M2 M3 M4 M5 M6 M7 hb2
  simp only [fillD]
  go_simp
  generalize u 0 = z0
  generalize u 1 = z1
  generalize u 2 = z2
  generalize u 3 = z3
  generalize u 4 = z4
  generalize u 5 = z5
  generalize u 6 = z6
  generalize u 7 = z7
  generalize u 8 = z8
  generalize u 9 = z9
  generalize u 10 = z10
  generalize u 11 = z11
  generalize u 12 = z12
  generalize u 13 = z13
  generalize u 14 = z14
  generalize u 15 = z15
  generalize u 16 = z16
  generalize u 17 = z17
  generalize u 18 = z18
  generalize u 19 = z19
  generalize u 20 = z20
  generalize u 21 = z21
  generalize u 22 = z22
  generalize u 23 = z23
  generalize u 24 = z24
  clear hvo u
  go_wp2
  go_ret
  exact ⟨_, rfl, HO.out, HB.out⟩
end Go.Proofs.YtglkonccinpdnaaGreatDoor
/- Contracts: a section of a reader at places: its Read; io.ReadAtLeast, io.ReadFull over it. -/
namespace Go.Proofs.YtglkonccinpdnaaGreatDoor
open Go.RowKit

abbrev secO (p : Nat) (base off lim n : Int) : Obj := .cells #[rdV p, .int .i64 base, .int .i64 off, .int .i64 lim, .int .i64 n] 154 (0, 0)
abbrev secV (q : Nat) : Value := .iface 130 (.pointer (some ⟨q, 0, none⟩))
/-- A section in block q of the reader in block p, at byte off of its bytes l, that ends at byte lim. -/
structure Sec (w : World) (q p : Nat) (v : Value) (l : List UInt8) (z base lim n off : Nat) : Prop where
  row : w.heap[q]? = some (secO p base off lim n)
  rdr : Rdr w p v l z
  lt : p < q
  fits : off ≤ lim ∧ lim ≤ l.length ∧ l.length ≤ 4611686018427387904
theorem Sec.keep {w w' : World} {q p : Nat} {v : Value} {l : List UInt8} {z base lim n off : Nat} (h : Sec w q p v l z base lim n off) {S : Nat → Prop} (hk : Keep S w w') (hS : ∀ k, S k → p < k ∧ k ≠ q) : Sec w' q p v l z base lim n off := by
  obtain ⟨hr, hd, hl, hf⟩ := h
  exact ⟨hk.row hr (fun hh => (hS _ hh).2 rfl), hd.keep hk (fun k hh => (hS k hh).1), hl, hf⟩
theorem Sec.below {w w' : World} {q p : Nat} {v : Value} {l : List UInt8} {z base lim n off : Nat} (h : Sec w q p v l z base lim n off) (hb : Below w.heap.size w w') : Sec w' q p v l z base lim n off := h.keep (S := fun _ => False) hb.keep (fun _ h => h.elim)
theorem Sec.drew {w : World} {q p : Nat} {v : Value} {l : List UInt8} {z base lim n off : Nat} (h : Sec w q p v l z base lim n off) : Sec w.drew q p v l z base lim n off := h.keep (S := fun _ => False) ((Keep.refl _ w).drewN 1) (fun _ h => h.elim)

set_option maxRecDepth 100000 in
set_option maxHeartbeats 2000000 in
theorem secRead_some (q p g o m c : Nat) (v : Value) (l : List UInt8) (z base lim n off : Nat) (cur : List Value) (t : TypeId) (w : World) (hr : Sec w q p v l z base lim n off) (hm0 : 0 < m) (hi : off + m ≤ lim) (hpg : p < g) (hgq : g ≠ q)
    (hg : w.heap[g]? = some (.cells cur.toArray t (0, 0))) (hfit : o + m ≤ cur.length) (e0 : Addr) (he : ErrAt p w 0 e0) :
    Calls Tryz.prog 153 #[.pointer (some ⟨q, 0, none⟩), .slice (some ⟨g, o, none⟩) m c] w fun e w' => e = .returned (.tuple #[.int .i64 m, .nilIface]) ∧
      Sec w' q p v l z base lim n (off + m) ∧ Hid (w'.heap[g]? = some (.cells (splice cur o (Lib.byteCells ((l.drop off).take m))).toArray t (0, 0))) ∧ Keep (fun k => k = g ∨ k = q) w w' := by
  obtain ⟨f1, f2, f3⟩ := hr.fits
  have hC : ∀ W, Below w.heap.size w W → Hid (Calls Tryz.prog 189 #[.pointer (some ⟨p, 0, none⟩), .slice (some ⟨g, o, none⟩) m c, .int .i64 off] W fun e w' => e = .returned (.tuple #[.int .i64 m, .nilIface]) ∧
      Hid (w'.heap[g]? = some (.cells (splice cur o (Lib.byteCells ((l.drop off).take m))).toArray t (0, 0))) ∧ Keep (fun k => k = g) W w') := by
    intro W hW
    have h := rdAt_some p g o m c v l z off cur t (some ⟨g, o, none⟩) W (hr.rdr.below hW) (by omega) hpg (row_below hW (block_of_row hg) hg) (fun _ => rfl) hfit (by omega) e0 (he.below hW)
    rw [show min m (l.length - off) = m by omega, if_neg (by omega)] at h
    exact Lib.hid h
  have hrow := hr.row
  have c0 := cell_of_row' (cur := [_, _, _, _, _]) hrow 0
  have c2 := cell_of_row' (cur := [_, _, _, _, _]) hrow 2
  have c3 := cell_of_row' (cur := [_, _, _, _, _]) hrow 3
  have fz := frozen_of_row' (cur := [_, _, _, _, _]) hrow 2
  have hna := fun w => nil_rdAt ⟨p, 0, none⟩ w
  have hme := fun w => method_rdAt ⟨p, 0, none⟩ w
  have g1 : ¬ (lim : Int) ≤ off := by omega
  have g2 : ¬ (lim : Int) - off < m := by omega
  have HROW := Lib.hid hrow
  have HR := Lib.hid hr
  have gn : p ≠ g := by omega
  clear hr hg hfit he hrow
  go_enter Tryz.func153, Tryz.ntmps153
  go_wp2_with fail
  go_quiet (fail)
  go_wp2_with fail
  go_quiet (fail)
  go_wp2_with fail
  go_region_with (go_at_call 189; refine (hC _ (below_drewN _ _ _)).out.mono ?_; rintro e w1 ⟨rfl, hg1, hk1⟩; have hr1 := hk1.row (row_below (below_drewN _ _ _) (block_of_row HROW.out) HROW.out) (by omega); have i2 := cell_of_row' (cur := [_, _, _, _, _]) hr1 2; have j2 := frozen_of_row' (cur := [_, _, _, _, _]) hr1 2; have HR1 := Lib.hid hr1; have HG1 := Lib.hid hg1; have HK1 := Lib.hid hk1; clear hr1 hg1 hk1)
  all_goals
    clear c0 c2 c3 fz
    go_wp2
    go_ret2
    have hk3 : Keep (fun k => k = g ∨ k = q) w (w1.setCell ⟨q, 2, none⟩ (.int .i64 ((off : Int) + m))) := Keep.setCell (S := fun k => k = g ∨ k = q) (((keep_drewN _ w _).trans HK1.out).mono fun _ _ h => Or.inl h) (Or.inr rfl) 2 _
    refine ⟨rfl, ⟨?_, HR.out.rdr.keep hk3 (fun k h => by have := HR.out.lt; omega), HR.out.lt, by omega, f2, f3⟩, Lib.hid ?_, hk3⟩
    · have h := Lib.heap_setCell_same (i := 2) HR1.out (.int .i64 ((off : Int) + m))
      rw [h]; rfl
    · exact (Below.heap_setCell _ _ _ _ (show g ≠ q from hgq)).trans HG1.out.out

theorem nil_secRead (a : Addr) (w : World) : (nilAhead 381 130 (.pointer (some a)) "Read").run Tryz.prog w = .ok (some false) w := by kernel_rfl
theorem method_secRead (a : Addr) (w : World) : (method 381 130 (.pointer (some a)) "Read").run Tryz.prog w = .ok (153, .pointer (some a)) w := by kernel_rfl

set_option maxRecDepth 100000 in
set_option maxHeartbeats 1000000 in
theorem secAtLeast_ok (q z base lim nn p g n c : Nat) (v : Value) (l : List UInt8) (i : Nat) (cur : List Value) (t : TypeId) (w : World) (hr : Sec w q p v l z base lim nn i) (hpg : p < g) (hgq : g ≠ q) (e0 : Addr) (he : ErrAt p w 0 e0)
    (hg : w.heap[g]? = some (.cells cur.toArray t (0, 0))) (hn0 : 0 < n) (hn : cur.length = n) (hi : i + n ≤ lim) :
    Calls Tryz.prog 93 #[secV q, .slice (some ⟨g, 0, none⟩) n c, .int .i64 n] w fun e w' => e = .returned (.tuple #[.int .i64 n, .nilIface]) ∧ Sec w' q p v l z base lim nn (i + n) ∧
      Hid (w'.heap[g]? = some (.cells (Lib.byteCells ((l.drop i).take n)).toArray t (0, 0))) ∧ Keep (fun k => k = g ∨ k = q) w w' := by
  obtain ⟨f1, f2, f3⟩ := hr.fits
  have HR := Lib.hid (secRead_some q p g 0 n c v l z base lim nn i cur t w.drew hr.drew hn0 hi hpg hgq hg (by omega) e0 he.drew)
  have b1 : n ≤ 9223372036854775807 := by omega
  have hlen : (Lib.byteCells ((l.drop i).take n)).length = cur.length := by rw [Lib.byteCells_length, List.length_take, List.length_drop]; omega
  have HLEN := Lib.hid hlen
  clear hlen
  have hsl := fun W => run_from (P := Tryz.prog) Tryz.underlying58 info_u8 (some ⟨g, 0, none⟩) n c 0 (by omega) W
  have hmf : ∀ (fn : Fn) (first cap : Array Value) (w : World), (Instr.makeFunc fn first cap).run Tryz.prog w = .ok (.func fn first cap) w := fun _ _ _ _ => rfl
  clear hr hg hn hi he
  go_enter Tryz.func93, Tryz.ntmps93
  go_wp2
  refine wp_loop_rounds 2 ?_
  rw [rounds_succ]
  go_wp2_with fail
  have hna := fun w => nil_secRead ⟨q, 0, none⟩ w
  have hme := fun w => method_secRead ⟨q, 0, none⟩ w
  go_region_with (go_at_call 153; refine HR.out.mono ?_; rintro e w1 ⟨rfl, hr1, hg1, hk1⟩)
  go_wp2
  rw [rounds_succ]
  go_wp2
  go_ret2
  refine ⟨rfl, hr1, ?_, (keep_drew _ w).trans hk1⟩
  rw [splice_whole _ _ HLEN.out] at hg1
  exact hg1

set_option maxRecDepth 100000 in
set_option maxHeartbeats 1000000 in
/-- io.ReadFull where the bytes are there. -/
theorem secFull_ok (q z base lim nn p g n c : Nat) (v : Value) (l : List UInt8) (i : Nat) (cur : List Value) (t : TypeId) (w : World) (hr : Sec w q p v l z base lim nn i) (hpg : p < g) (hgq : g ≠ q) (e0 : Addr) (he : ErrAt p w 0 e0)
    (hg : w.heap[g]? = some (.cells cur.toArray t (0, 0))) (h0 : 0 < n) (hn : cur.length = n) (hi : i + n ≤ lim) :
    Calls Tryz.prog 80 #[secV q, .slice (some ⟨g, 0, none⟩) n c] w fun e w' => e = .returned (.tuple #[.int .i64 n, .nilIface]) ∧ Sec w' q p v l z base lim nn (i + n) ∧
      Hid (w'.heap[g]? = some (.cells (Lib.byteCells ((l.drop i).take n)).toArray t (0, 0))) ∧ Keep (fun k => k = g ∨ k = q) w w' := by
  obtain ⟨f1, f2, f3⟩ := hr.fits
  have HR := Lib.hid (secAtLeast_ok q z base lim nn p g n c v l i cur t w hr hpg hgq e0 he hg h0 hn hi)
  have b1 : n ≤ 9223372036854775807 := by omega
  clear hr hg hi hn he
  go_enter Tryz.func80, Tryz.ntmps80
  go_wp2_with fail
  refine HR.out.mono ?_
  rintro e w1 ⟨rfl, h1, h2, h3⟩
  go_wp2
  go_ret2
  exact ⟨rfl, h1, h2, h3⟩
end Go.Proofs.YtglkonccinpdnaaGreatDoor
/- The 40 bytes of a header of version 2: what is written and what is read. No program in sight. -/
namespace Go.Proofs.YtglkonccinpdnaaGreatDoor

def hdEnc (a b c d e : Nat) : List UInt8 := Lib.leBytes 8 a ++ Lib.leBytes 8 b ++ Lib.leBytes 8 c ++ Lib.leBytes 8 d ++ Lib.leBytes 8 e
theorem leBytes_len : ∀ k v, (Lib.leBytes k v).length = k
  | 0, _ => rfl
  | k + 1, v => by simp [Lib.leBytes, leBytes_len k]
theorem hdEnc_len (a b c d e : Nat) : (hdEnc a b c d e).length = 40 := by simp [hdEnc, leBytes_len]
/-- The k-th number of 8 bytes behind byte i. -/
def leAt (l : List UInt8) (i k : Nat) : Nat := Lib.leNat (((l.drop (i + 8 * k)).take 8))
/-- The header that is read at byte i, as its five numbers. -/
def hdOk (l : List UInt8) (i : Nat) : Prop := i + 40 ≤ l.length ∧ 51 ≤ leAt l i 2 ∧ leAt l i 2 < 9223372036854775808 ∧ 0 < leAt l i 3 ∧ leAt l i 3 < 9223372036854775808 ∧ leAt l i 4 < 9223372036854775808
end Go.Proofs.YtglkonccinpdnaaGreatDoor
