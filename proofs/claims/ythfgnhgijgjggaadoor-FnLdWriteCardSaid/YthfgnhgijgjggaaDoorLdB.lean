/- Contracts: util.LdRead over a reader of bytes, impl.LdRead. -/
import Derived.Test.YthfgnhgijgjggaaDoorLdA
namespace Go.Proofs.YthfgnhgijgjggaaDoor
open Go.RowKit

/-- A slice of the bytes l, and no error. -/
def BytesNil (l : List UInt8) (e : Ending) (w' : World) : Prop := ∃ A c, e = .returned (.tuple #[.slice A l.length c, .nilIface]) ∧ BS w' (.slice A l.length c) l

set_option maxRecDepth 100000 in
set_option maxHeartbeats 1000000 in
theorem ldRead_ok (p : Nat) (v : Value) (l : List UInt8) (i : Nat) (w : World) (hr : Rdr w p v l i) (e0 e1 : Addr) (t2 t3 : TypeId) (p2 p3 : Value) (he : UvErrs p w e0 e1 (.iface t2 p2) (.iface t3 p3)) (x m : Nat) (hd : uvDec (l.drop i) = .ok x m) (z : Bool) (most : Nat) (hm : x ≤ most) (hz : z = true → x ≠ 0) (hx : i + m + x ≤ l.length) (hl : l.length ≤ 281474976710656) :
    Calls Tryd.prog 50 #[rdV p, .bool z, .int .u64 most] w fun e w' => BytesNil ((l.drop (i + m)).take x) e w' ∧ Rdr w' p v l (i + m + x) ∧ Keep (fun k => k = p) w w' := by
  have HB := Lib.hid (ldSize_ok p v l i w hr e0 e1 t2 t3 p2 p3 he x m hd z most hm hz)
  have hpw : p < w.heap.size := by obtain ⟨r, hrow⟩ := hr.row; exact block_of_row hrow
  have hxs : x ≤ 281474976710656 := by omega
  have hlen : ((l.drop (i + m)).take x).length = x := by rw [List.length_take, List.length_drop]; omega
  have HL := Lib.hid hlen
  have HX := Lib.hid hx
  clear hr he hd hlen hz hm hx hl
  go_enter Tryd.func50, Tryd.ntmps50
  go_wp2_with fail
  refine HB.out.mono ?_
  rintro e w1 ⟨rfl, hr1, hk1⟩
  obtain ⟨w2, hmk, hb2, hs2, hrow⟩ := make_bytes64 (P := Tryd.prog) Tryd.underlying43 info_u8 w1 x hxs
  have hp1 : p < w1.heap.size := by have := hk1.size; omega
  have HF := Lib.hid (rdFull_ok p w1.heap.size x x v l (i + m) (List.replicate x (Value.int .u8 0)) 5 w2 (hr1.below hb2) hp1 hrow (by simp) HX.out)
  have HK1 := Lib.hid hk1
  have hs1 := hk1.size
  have HK2 := Lib.hid (hb2.keep (S := fun _ => False))
  clear hr1 hrow hk1 hs2
  generalize hg : w1.heap.size = g at *
  go_wp2_with fail
  refine HF.out.mono ?_
  rintro e w3 ⟨rfl, hr3, hrow3, hk3⟩
  have HBS := Lib.hid (BS.of_row hrow3.out (c := x) (by rw [HL.out]; exact Nat.le_refl _))
  have HR3 := Lib.hid hr3
  have hk : Keep (fun k => k = p) w w3 := HK1.out.trans2 (T := fun k => k = p ∨ k = g) ((HK2.out.mono (fun _ _ h => h.elim)).trans hk3) (fun k hk h => by omega)
  clear hr3 hrow3 hk3 hmk HF HB
  go_wp2
  go_ret2
  refine ⟨⟨some ⟨g, 0, none⟩, x, by rw [HL.out]; rfl, HBS.out⟩, HR3.out, hk⟩

set_option maxRecDepth 100000 in
set_option maxHeartbeats 1000000 in
theorem ldRead_end (p : Nat) (v : Value) (l : List UInt8) (i : Nat) (w : World) (hr : Rdr w p v l i) (e0 e1 : Addr) (t2 t3 : TypeId) (p2 p3 : Value) (he : UvErrs p w e0 e1 (.iface t2 p2) (.iface t3 p3)) (m : Nat) (hd : uvDec (l.drop i) = .ok 0 m) (most : Nat) :
    Calls Tryd.prog 50 #[rdV p, .bool true, .int .u64 most] w fun e w' => e = .returned (.tuple #[.slice none 0 0, errV e0]) ∧ Rdr w' p v l (i + m) ∧ Keep (fun k => k = p) w w' := by
  have HB := Lib.hid (ldSize_end p v l i w hr e0 e1 t2 t3 p2 p3 he m hd most)
  clear hr he hd
  go_enter Tryd.func50, Tryd.ntmps50
  go_wp2_with fail
  refine HB.out.mono ?_
  rintro e w1 ⟨rfl, hr1, hk1⟩
  have HR := Lib.hid hr1
  clear hr1
  go_wp2
  go_ret2
  exact ⟨rfl, HR.out, hk1⟩
end Go.Proofs.YthfgnhgijgjggaaDoor
