/- Contracts: impl.LdWrite, laws.ldOne. -/
import Derived.Test.YthfgnhgijgjggaaDoorLwD
import Derived.Test.YthfgnhgijgjggaaDoorLdC
namespace Go.Proofs.YthfgnhgijgjggaaDoor
open Go.RowKit

theorem BufRow.is {w : World} {N b : Nat} {bs : List Value} (h : BufRow w N b bs) : Lib.IsBuffer 108 5 0 b bs w := by
  obtain ⟨g, cap, cur, lr, hbk, _, hgb, hg, hlc, hcm, hcs, htk⟩ := h
  exact ⟨Nat.zero_le _, _, _, hbk, ⟨by rw [Nat.mul_one], .inr ⟨g, cap, cur, rfl, Nat.zero_le _, hg, by omega, hcm, by omega, by rw [Nat.mul_one]; exact htk⟩⟩, by simp [Value.ownBlock]; exact hgb⟩

set_option maxRecDepth 100000 in
set_option maxHeartbeats 4000000 in
theorem iLdWrite (v : Value) (ss : List ByteArray) (w : World) (hs : SS w v ss) (hss : ∀ s ∈ ss, s.size ≤ 16384) (hn : ss.length ≤ 50) :
    Calls Tryd.prog 29 #[v] w fun e w' => e = .returned (.string ⟨(Lib.uvarint (jn ss).length ++ jn ss).toArray⟩) ∧ Below w.heap.size w w' := by
  have hA : Below w.heap.size w (w.alloc (.cells #[.slice none 0 0, .int .i64 0, .int .i8 0] 108)) := (Below.refl _ _).alloc (Nat.le_refl _) _
  have hrow := heap_alloc_new w (.cells #[.slice none 0 0, .int .i64 0, .int .i8 0] 108)
  have hsz : (w.alloc (.cells #[.slice none 0 0, .int .i64 0, .int .i8 0] 108)).heap.size = w.heap.size + 1 := by simp
  obtain ⟨w1, hw1⟩ : ∃ w1, w1 = w.alloc (.cells #[.slice none 0 0, .int .i64 0, .int .i8 0] 108) := ⟨_, rfl⟩
  rw [← hw1] at hA hrow hsz
  have HB := Lib.hid (bytesOf_any v ss w1 (hs.below hA) (by omega))
  have HR := Lib.hid hrow
  have HA := Lib.hid hA
  have HSZ := Lib.hid hsz
  have HS := Lib.hid hss
  have HN := Lib.hid hn
  rw [hw1] at HB
  clear hs hrow hA hsz hss hn
  go_enter Tryd.func29, Tryd.ntmps29
  go_wp2_with fail
  refine HB.out.mono ?_
  rw [← hw1]
  clear hw1
  rintro e w2 ⟨⟨v', rfl, hp⟩, hb2⟩
  have hnil : BufNil w2 w.heap.size := ⟨0, row_below hb2 (block_of_row HR.out) HR.out⟩
  have HL := Lib.hid (ldWrite_any w.heap.size w1.heap.size v' ss w2 hnil hp (by rw [HSZ.out]; omega) HS.out HN.out)
  have b2 := Lib.hid (below_next HA.out hb2)
  clear hp hb2 hnil HB
  go_wp2_with fail
  refine HL.out.mono ?_
  rintro e w3 ⟨rfl, ⟨N, hN, hbr⟩, hk⟩
  have HST := Lib.hid (Tryd.Buffer_String 0 w.heap.size _ w3 hbr.is)
  have b3 : Below w.heap.size w w3 := b2.out.trans (hk.below (fun k hk e => by omega) b2.out.size)
  clear hbr hk
  go_wp2_with fail
  refine HST.out.mono ?_
  rintro e w4 ⟨rfl, q, rfl⟩
  go_wp2
  go_ret
  exact ⟨rfl, b3.drewN _⟩

theorem uvDec_3abc : uvDec (⟨#[3, 97, 98, 99]⟩ : ByteArray).data.toList = .ok 3 1 := rfl

set_option maxRecDepth 100000 in
set_option maxHeartbeats 4000000 in
theorem ldOne_any (w : World) (e0 e1 : Addr) (t2 t3 : TypeId) (p2 p3 : Value) (he : UvErrs w.heap.size w e0 e1 (.iface t2 p2) (.iface t3 p3)) :
    Calls Tryd.prog 26 #[] w fun e w' => e = .returned (.bool true) ∧ Below w.heap.size w w' := by
  have HRD := Lib.hid (iLdRead_ok ⟨#[3, 97, 98, 99]⟩ (by decide) w e0 e1 t2 t3 p2 p3 he 3 1 uvDec_3abc false 100 (by omega) (fun h => by cases h) (by decide) ⟨#[97, 98, 99]⟩ rfl)
  have HW := fun (W : World) (v : Value) (h : SS W v [⟨#[97]⟩, ⟨#[98, 99]⟩]) => Lib.hid (iLdWrite v [⟨#[97]⟩, ⟨#[98, 99]⟩] W h (by decide) (by decide))
  have hout : (⟨(Lib.uvarint (jn [⟨#[97]⟩, ⟨#[98, 99]⟩]).length ++ jn [⟨#[97]⟩, ⟨#[98, 99]⟩]).toArray⟩ : ByteArray) = ⟨#[3, 97, 98, 99]⟩ := by
    rw [show (jn [⟨#[97]⟩, ⟨#[98, 99]⟩]) = [97, 98, 99] from rfl]
    rw [Lib.uvarint_small (by decide)]
    rfl
  rw [hout] at HW
  clear hout he
  go_enter Tryd.func26, Tryd.ntmps26
  go_wp2_with fail
  refine HRD.out.mono ?_
  rintro e w1 ⟨rfl, hb1⟩
  have HB1 := Lib.hid hb1
  clear hb1
  go_wp2_with fail
  have hrow := heap_alloc_new w1 (.cells #[.string ⟨#[97]⟩, .string ⟨#[98, 99]⟩] 9)
  have hss : SS (w1.alloc (.cells #[.string ⟨#[97]⟩, .string ⟨#[98, 99]⟩] 9)) (.slice (some ⟨w1.heap.size, 0, none⟩) 2 2) [⟨#[97]⟩, ⟨#[98, 99]⟩] :=
    ⟨_, 2, rfl, by decide, fun _ => ⟨_, 0, rfl, fun j s hj => by
      match j, hj with
      | 0, hj => obtain rfl : (⟨#[97]⟩ : ByteArray) = s := by simpa using hj
                 exact cell_of_row' (cur := [_, _]) hrow 0
      | 1, hj => obtain rfl : (⟨#[98, 99]⟩ : ByteArray) = s := by simpa using hj
                 exact cell_of_row' (cur := [_, _]) hrow 1⟩⟩
  have hal : Below w.heap.size w (w1.alloc (.cells #[.string ⟨#[97]⟩, .string ⟨#[98, 99]⟩] 9)) := HB1.out.alloc HB1.out.size _
  refine (HW _ _ hss).out.mono ?_
  rintro e w2 ⟨rfl, hb2⟩
  have b2 := below_next hal hb2
  clear hrow hss hal hb2
  go_wp2
  go_ret
  exact ⟨rfl, b2⟩
end Go.Proofs.YthfgnhgijgjggaaDoor
