/- Contracts of package spec: Varint, MultihashBytes, CidBytes, Tidy. -/
import Derived.Test.YthfgnhgijgjggaaDoorBld
import Derived.Test.YthfgnhgijgjggaaDoorCidPlain
import Derived.Test.YthfgnhgijgjggaaDoorCdM
namespace Go.Proofs.YthfgnhgijgjggaaDoor
open Go.RowKit

theorem or128 (m : Nat) : bits .or .u8 ((m : Int) % 256) 128 = (((m % 128 + 128).toUInt8.toNat : Nat) : Int) := by
  rw [Lib.u8_or128_any _ (by omega) (by omega), Lib.toUInt8_toNat (by omega)]
  omega

/-- A row of the call's own reads as its bytes. -/
theorem bs_of_own {w : World} {B : Nat} {e : TypeId} {v : Value} {l : List UInt8} (h : w.ownsRow B e 1 v l.length (Lib.byteCells l)) : ∃ A c, v = .slice A l.length c ∧ BS w (.slice A l.length c) l := by
  rcases h.2 with ⟨rfl, h0⟩ | ⟨g, cap, cur, rfl, _, hg, hnc, _, hcs, htake⟩
  · have hl : l = [] := List.eq_nil_of_length_eq_zero h0
    subst hl
    exact ⟨none, 0, rfl, BS.nil _ _⟩
  · refine ⟨_, cap, rfl, BS.of_cells hnc fun j hj => ?_⟩
    rw [Nat.zero_add]
    have hc := cell_of_row w g j cur e (0, 0) hg
    rw [hc, Nat.mul_one] at *
    have h2 := congrArg (fun x => x[j]?) htake
    simp only [List.getElem?_take, Lib.byteCells, List.getElem?_map, List.getElem?_eq_getElem hj, Option.map_some] at h2
    rw [if_pos hj] at h2
    simpa using h2

set_option maxRecDepth 100000 in
set_option maxHeartbeats 4000000 in
theorem spVarint (n : Nat) (hn : n < 18446744073709551616) (w : World) :
    Calls Tryd.prog 23 #[.int .u64 n] w fun e w' => HasBytes (Lib.uvarint n) e w' ∧ Below w.heap.size w w' := by
  obtain ⟨i0, hi, hz0, hz1, hz2⟩ := info_u8p
  have hlen := Lib.uvarint_length64 hn
  have HL := Lib.hid hlen
  clear hlen
  go_enter Tryd.func23, Tryd.ntmps23
  go_wp2
  go_loopw [0, 3] (fun x v wr => ∃ (done : List UInt8) (m : Nat), x = .int .u64 m ∧ m < 18446744073709551616 ∧ Hid (Lib.uvarint n = done ++ Lib.uvarint m) ∧ done.length ≤ 10 ∧ wr.ownsRow w.heap.size 5 1 v done.length (Lib.byteCells done) ∧ Below w.heap.size w wr) (fun x _ _ => (intOf x).toNat)
  case atStart => exact ⟨[], n, rfl, hn, Lib.hid rfl, by simp, ⟨by simp [Lib.byteCells], .inl ⟨rfl, rfl⟩⟩, Below.refl _ _⟩
  case round =>
    obtain ⟨done, m, rfl, hm, hd, hdl, hown, hb⟩ := hrel
    have hl := congrArg List.length hd.out
    rw [List.length_append] at hl
    have hpos := Lib.uvarint_pos m
    have hd9 : done.length ≤ 9 := by have := HL.out; omega
    clear hl hpos
    have hBw := hb.size
    by_cases hge : 128 ≤ m
    · obtain ⟨c, hc⟩ : ∃ c : UInt8, c = (m % 128 + 128).toUInt8 := ⟨_, rfl⟩
      have hor : bits .or .u8 ((m : Int) % 256) 128 = ((c.toNat : Nat) : Int) := by rw [hc]; exact or128 m
      have hge' : (128 : Int) ≤ m := by omega
      have HC := Lib.hid hc
      clear hc
      go_wp2_with (at_builtin; refine wpList_append_own _ rfl _ _ 43 rfl w.heap.size 5 i0 (.int .u8 0) 1 1 Tryd.underlying43 hi hz0 hz1 hz2 rfl (by decide) _ _ _ rfl (hown.alloc _) ⟨wr.heap.size, 0, none⟩ 1 1 [.int .u8 (c.toNat : Int)] rfl rfl ?c1 ?c2 ?c3 ?c4 ?c5 ?_)
      case c1 =>
        intro j u hj
        match j, hj with
        | 0, hj => simp at hj; subst hj; simp [Addr.add]
      case c2 => intro u hu; simp at hu; subst hu; rfl
      case c3 => unfold maxLen; omega
      case c4 => omega
      case c5 => simp; omega
      intro v' w2 hown' hgrow _
      have hb2 : Below w.heap.size w w2 := (hb.alloc hBw _).grown hgrow (by simp; omega) (fun k hk => (hown.lt k hk).1)
      clear hown hgrow hor
      go_wp2
      go_roundw
      case rel =>
        refine ⟨done ++ [c], m / 128, by go_num, by omega, Lib.hid ?_, by simp; omega, ?_, hb2⟩
        · rw [hd.out, Lib.uvarint_big hge, HC.out]; simp
        · rw [Lib.byteCells_append, List.length_append]; exact hown'
      case measure => simp [intOf]; omega
    · have hge' : (m : Int) < 128 := by omega
      go_wp2_with (at_builtin; refine wpList_append_own _ rfl _ _ 43 rfl w.heap.size 5 i0 (.int .u8 0) 1 1 Tryd.underlying43 hi hz0 hz1 hz2 rfl (by decide) _ _ _ rfl (hown.alloc _) ⟨wr.heap.size, 0, none⟩ 1 1 [.int .u8 (m : Int)] rfl rfl ?d1 ?d2 ?d3 ?d4 ?d5 ?_)
      case d1 =>
        intro j u hj
        match j, hj with
        | 0, hj => simp at hj; subst hj; simp [Addr.add]
      case d2 => intro u hu; simp at hu; subst hu; rfl
      case d3 => unfold maxLen; omega
      case d4 => omega
      case d5 => simp; omega
      intro v' w2 hown' hgrow _
      have hb2 : Below w.heap.size w w2 := (hb.alloc hBw _).grown hgrow (by simp; omega) (fun k hk => (hown.lt k hk).1)
      clear hown hgrow
      have hown2 : w2.ownsRow w.heap.size 5 1 v' (Lib.uvarint n).length (Lib.byteCells (Lib.uvarint n)) := by
        rw [hd.out, Lib.uvarint_small (by omega), Lib.byteCells_append, List.length_append]
        have e : Lib.byteCells [m.toUInt8] = [Value.int .u8 (m : Int)] := by
          simp only [Lib.byteCells, List.map_cons, List.map_nil, Lib.toUInt8_toNat (show m < 256 by omega)]
        rw [e]
        exact hown'
      have HO := Lib.hid hown2
      clear hown' hown2
      go_wp2
      go_ret
      obtain ⟨A, c', rfl, hbs⟩ := bs_of_own HO.out
      exact ⟨⟨A, _, c', rfl, hbs⟩, hb2⟩
end Go.Proofs.YthfgnhgijgjggaaDoor
