/- multihash.Encode and impl.MhEncode: the code, the digest's length, the digest. -/
import Derived.Test.YthfgnhgijgjggaaDoorMhB
import Derived.Lib.BufferWrite
namespace Go.Proofs.YthfgnhgijgjggaaDoor
open Go.RowKit

theorem mhEnc_length (code : Nat) (d : List UInt8) : (mhEnc code d).length = (Lib.uvarint code).length + (Lib.uvarint d.length).length + d.length := by
  unfold mhEnc; simp [Nat.add_assoc]

theorem splice3 (z : Value) (a b d : List Value) : splice (splice (splice (List.replicate (a.length + b.length + d.length) z) 0 a) a.length b) (a.length + b.length) d = a ++ (b ++ d) := by
  have h1 : splice (List.replicate (a.length + b.length + d.length) z) 0 a = a ++ List.replicate (b.length + d.length) z := by
    simp [splice, Nat.add_assoc]
  have h2 : splice (a ++ List.replicate (b.length + d.length) z) a.length b = a ++ (b ++ List.replicate d.length z) := by
    simp [splice]
  rw [h1, h2]
  have e : a ++ (b ++ List.replicate d.length z) = (a ++ b) ++ List.replicate d.length z := by simp
  rw [e]
  unfold splice
  rw [List.take_left' (by simp), List.drop_eq_nil_of_le (by simp; omega)]
  simp

set_option maxRecDepth 100000 in
set_option maxHeartbeats 1000000 in
theorem putUvW_any (g o n c x : Nat) (cur : List Value) (t : TypeId) (w : World) (hx : x < 18446744073709551616) (hrow : w.heap[g]? = some (.cells cur.toArray t (0, 0)))
    (hfit : o + (Lib.uvarint x).length ≤ cur.length) (hn : (Lib.uvarint x).length ≤ n) :
    Calls Tryd.prog 82 #[.slice (some ⟨g, o, none⟩) n c, .int .u64 x] w fun e w' =>
      e = .returned (.int .i64 (Lib.uvarint x).length) ∧ Hid (w'.heap[g]? = some (.cells (splice cur o (Lib.byteCells (Lib.uvarint x))).toArray t (0, 0))) ∧ Turn g w w' := by
  have HC := Lib.hid (put_row g o n c x cur t w hx hrow hfit hn)
  clear hrow hfit hn
  go_enter Tryd.func82, Tryd.ntmps82
  go_wp2_with fail
  refine HC.out.mono ?_
  rintro e w1 ⟨rfl, hr, ht⟩
  go_wp2
  go_ret
  exact ⟨rfl, hr, ht⟩

set_option maxRecDepth 100000 in
set_option maxHeartbeats 1000000 in
theorem encode_any (A : Option Addr) (n c : Nat) (l : List UInt8) (w : World) (hs : BS w (.slice A n c) l) (hm : l.length ≤ 2147483647) (code : Nat) (hc : code < 18446744073709551616) :
    Calls Tryd.prog 69 #[.slice A n c, .int .u64 code] w fun e w' =>
      e = .returned (.tuple #[.slice (some ⟨w.heap.size, 0, none⟩) (mhEnc code l).length (mhEnc code l).length, .nilIface]) ∧ Hid (w'.heap[w.heap.size]? = some (.cells (Lib.byteCells (mhEnc code l)).toArray 5 (0, 0))) ∧ Below w.heap.size w w' := by
  obtain ⟨hn, hcap⟩ := hs.slice
  have la := Lib.uvarint_length64 hc
  have lb := Lib.uvarint_length64 (x := n) (by omega)
  have pa := Lib.uvarint_pos code
  have pb := Lib.uvarint_pos n
  have hlen := mhEnc_length code l
  rw [← hn] at hlen
  have hcells : Lib.byteCells (mhEnc code l) = Lib.byteCells (Lib.uvarint code) ++ (Lib.byteCells (Lib.uvarint n) ++ Lib.byteCells l) := by
    unfold mhEnc; rw [← hn, Lib.byteCells_append, Lib.byteCells_append]
  have hl3 : (Lib.byteCells l).length = n := by rw [Lib.byteCells_length]; exact hn.symm
  rw [hlen, hcells]
  obtain ⟨a, ha⟩ : ∃ a, a = (Lib.uvarint code).length := ⟨_, rfl⟩
  obtain ⟨b, hb⟩ : ∃ b, b = (Lib.uvarint n).length := ⟨_, rfl⟩
  rw [← ha] at la pa ⊢
  rw [← hb] at lb pb ⊢
  obtain ⟨N, hN⟩ : ∃ N, N = a + b + n := ⟨_, rfl⟩
  obtain ⟨w1, hmk, hb1, hs1, hrow⟩ := make_bytes (P := Tryd.prog) Tryd.underlying43 info_u8 w N (by omega)
  have eN : ((N : Nat) : Int) = (a : Int) + b + n := by omega
  rw [eN] at hmk
  have r1 := fun W => run_from (P := Tryd.prog) Tryd.underlying43 info_u8 (some ⟨w.heap.size, 0, none⟩) N N a (by omega) W
  have r2 := fun W => run_from (P := Tryd.prog) Tryd.underlying43 info_u8 (some ⟨w.heap.size, 0, none⟩) N N (a + b) (by omega) W
  have e2 : ((a + b : Nat) : Int) = (a : Int) + b := by omega
  rw [cutA_own _ _ _ _ (by omega), Nat.zero_add] at r1
  rw [e2] at r2
  have HR := Lib.hid hrow
  have HA := Lib.hid ha
  have HB := Lib.hid hb
  have HN := Lib.hid hN
  have H3 := Lib.hid hl3
  have HS := Lib.hid hs
  have Hn := Lib.hid hn
  have n2 : n ≤ 2147483647 := by omega
  have N1 : N ≤ 3000000000 := by omega
  clear hrow ha hb hN hl3 hs hn hlen hcells hcap hs1 hm eN e2
  go_enter Tryd.func69, Tryd.ntmps69
  go_wp2_with fail
  refine (uvSize_any code w hc).mono ?_
  rw [← HA.out]
  rintro e w' ⟨rfl, rfl⟩
  go_wp2_with fail
  refine (uvSize_any n w (by omega)).mono ?_
  rw [← HB.out]
  rintro e w' ⟨rfl, rfl⟩
  go_wp2_with fail
  clear hmk
  refine (putUvW_any w.heap.size 0 N N code (List.replicate N (Value.int .u8 0)) 5 w1 hc HR.out (by rw [List.length_replicate, ← HA.out]; have := HN.out; omega) (by rw [← HA.out]; have := HN.out; omega)).mono ?_
  rw [← HA.out]
  rintro e w2 ⟨rfl, h2, ht2⟩
  have h2' := h2.out
  have L1 : (splice (List.replicate N (Value.int .u8 0)) 0 (Lib.byteCells (Lib.uvarint code))).length = N := by
    rw [length_splice _ _ _ (by rw [Lib.byteCells_length, List.length_replicate, ← HA.out]; have := HN.out; omega), List.length_replicate]
  go_wp2_with fail
  refine (putUvW_any w.heap.size a (N - a) (N - a) n _ 5 w2 (by omega) h2.out (by rw [L1, ← HB.out]; have := HN.out; omega) (by rw [← HB.out]; have := HN.out; omega)).mono ?_
  rw [← HB.out]
  rintro e w3 ⟨rfl, h3, ht3⟩
  clear h2'
  have L2 : (splice (splice (List.replicate N (Value.int .u8 0)) 0 (Lib.byteCells (Lib.uvarint code))) a (Lib.byteCells (Lib.uvarint n))).length = N := by
    rw [length_splice _ _ _ (by rw [Lib.byteCells_length, L1, ← HB.out]; have := HN.out; omega), L1]
  have hb3 : Below w.heap.size w w3 := (hb1.trans (ht2.below (Nat.le_refl _))).trans (ht3.below (Nat.le_refl _))
  have hsrc : 0 < (Lib.byteCells l).length → (cutA (some ⟨w.heap.size, 0, none⟩) N (a + b)) = some ⟨w.heap.size, a + b, none⟩ ∧ ∃ ad, A = some ad ∧ ∀ j v, (Lib.byteCells l)[j]? = some v → w3.cell? (ad.add j) = some v := by
    intro h0
    rw [H3.out] at h0
    refine ⟨by rw [cutA_own _ _ _ _ (by have := HN.out; omega), Nat.zero_add], ?_⟩
    obtain ⟨b', o', e1, hcell⟩ := (HS.out.below hb3).at_ h0
    refine ⟨_, e1, fun j v hv => ?_⟩
    have hj : j < l.length := by
      rcases Nat.lt_or_ge j l.length with h | h
      · exact h
      · rw [List.getElem?_eq_none (by rw [Lib.byteCells_length]; exact h)] at hv; cases hv
    have ead : (⟨b', o', none⟩ : Addr).add j = ⟨b', o' + j, none⟩ := by by_cases h : j = 0 <;> simp [Addr.add, h]
    rw [ead, hcell j hj]
    simp [Lib.byteCells, List.getElem?_eq_getElem hj] at hv
    rw [hv]
  have HSRC := Lib.hid hsrc
  have HL2 := Lib.hid L2
  have HL1 := Lib.hid L1
  clear hsrc L2 L1
  have hsz1 : (Tryd.prog.info? 5).map (·.size) = some 1 := by kernel_rfl
  have hmin : (Lib.byteCells l).length = Nat.min n (N - (a + b)) := by
    have := HN.out
    rw [H3.out, show N - (a + b) = n by omega]; exact (Nat.min_self n).symm
  have HMIN := Lib.hid hmin
  clear hmin
  go_wp2_with (with_reducible refine wpList_copy_splice rfl (.tmp 33) (.tmp 34) 43 43 rfl 5 Tryd.underlying43 hsz1 (cutA (some ⟨w.heap.size, 0, none⟩) N (a + b)) A (N - (a + b)) (N - (a + b)) n c rfl rfl w.heap.size (a + b) _ 5 h3.out (Lib.byteCells l) HMIN.out HSRC.out (by rw [H3.out, HL2.out]; have := HN.out; omega) (Lib.byteCells_one _) w.heap.size w hb3 (Nat.le_refl _) ?_; intro w4 hg4 hb4)
  go_ret2
  refine ⟨by rw [← HN.out]; rfl, Lib.hid ?_, hb4⟩
  rw [hg4.out]
  have e1 : a = (Lib.byteCells (Lib.uvarint code)).length := by rw [Lib.byteCells_length]; exact HA.out
  have e2 : b = (Lib.byteCells (Lib.uvarint n)).length := by rw [Lib.byteCells_length]; exact HB.out
  rw [HN.out]
  rw [show a + b + n = (Lib.byteCells (Lib.uvarint code)).length + (Lib.byteCells (Lib.uvarint n)).length + (Lib.byteCells l).length by rw [← e1, ← e2, H3.out]]
  conv => lhs; rw [show a = (Lib.byteCells (Lib.uvarint code)).length from e1, show b = (Lib.byteCells (Lib.uvarint n)).length from e2]
  rw [splice3]

end Go.Proofs.YthfgnhgijgjggaaDoor
