/- FnLdWrite's walk: parts are written as one section, and how many bytes that has. -/
import Derived.Test.YthfgnhgijgjggaaDoorLwG
import Derived.Test.YthfgnhgijgjggaaDoorSpB
namespace Go.Proofs.YthfgnhgijgjggaaDoor
open Go.RowKit

set_option maxRecDepth 100000 in
set_option maxHeartbeats 4000000 in
theorem utilSize (lo : Nat) (v : Value) (ss : List ByteArray) (w : World) (hp : Parts w lo v ss) (hf : fewS ss) :
    Calls Tryd.prog 56 #[v] w fun e w' => e = .returned (.int .u64 (((Lib.uvarint (jn ss).length).length : Nat) + ((jn ss).length : Nat))) ∧ w = w' := by
  obtain ⟨hn, hss⟩ := hf
  obtain ⟨A, c, rfl, hc, hcells⟩ := hp
  obtain ⟨n, hN⟩ : ∃ n, n = ss.length := ⟨_, rfl⟩
  have hlens : ∀ k, (jn (ss.take k)).length ≤ 819200 := fun k => by
    have := jn_len (ss.take k) 16384 (fun s hs => hss s (List.mem_of_mem_take hs))
    have h2 : (ss.take k).length ≤ 50 := by rw [List.length_take]; omega
    have h3 : (ss.take k).length * 16384 ≤ 50 * 16384 := Nat.mul_le_mul_right _ h2
    omega
  rw [← hN] at hc hn
  have HC := Lib.hid hcells
  have HN := Lib.hid hN
  have HS := Lib.hid hss
  have HLS := Lib.hid hlens
  rw [← hN]
  clear hcells hc hN hss hlens
  go_enter Tryd.func56, Tryd.ntmps56
  go_wp2
  go_loop [3, 9] (fun x i => ∃ (k : Nat), k ≤ n ∧ i = .int .i64 k ∧ x = .int .u64 ((jn (ss.take k)).length : Nat)) (fun _ i => n - (intOf i).toNat)
  case atStart => exact ⟨0, Nat.zero_le _, rfl, rfl⟩
  case round =>
    obtain ⟨k, hk, rfl, rfl⟩ := hrel
    have hb1 := HLS.out k
    by_cases hlt : k < n
    · obtain ⟨g, rfl, h1, h2, h3⟩ := HC.out (by rw [← HN.out]; omega)
      have hks : k < ss.length := by rw [← HN.out]; exact hlt
      obtain ⟨s, hsv⟩ : ∃ s, ss[k]? = some s := ⟨_, List.getElem?_eq_getElem hks⟩
      obtain ⟨x, hx, b', c', rfl, -, -, -, -, -⟩ := h3 k s hsv
      rw [Nat.zero_add] at hx
      have hsz := HS.out s (List.mem_of_getElem? hsv)
      have HE := Lib.hid (jn_take ss k s hsv)
      clear h3 hsv hks
      go_wp2
      go_round
      case rel => exact ⟨k + 1, by omega, by go_num, by rw [HE.out, List.length_append, ba_len]; go_num⟩
      case measure => simp [intOf]; omega
    · obtain rfl : k = n := by omega
      have hall : ss.take k = ss := List.take_of_length_le (by rw [HN.out]; exact Nat.le_refl _)
      rw [hall] at hb1 ⊢
      clear hall
      generalize hT : (jn ss).length = T at *
      have HT := Lib.hid hT
      clear hT
      have hU := uvarint_len3 (n := T) (by omega)
      have HC2 := fun W => Lib.hid (uvSize_any T W (by omega))
      generalize hL : (Lib.uvarint T).length = L at *
      have HL := Lib.hid hL
      clear hL
      go_wp2_with fail
      refine (HC2 _).out.mono ?_
      rintro e w1 ⟨rfl, rfl⟩
      go_wp2
      go_ret
      rw [HT.out, HL.out]
      exact ⟨congrArg (fun x => Ending.returned (.int .u64 x)) (Int.add_comm (T : Int) L), rfl⟩

set_option maxRecDepth 100000 in
set_option maxHeartbeats 4000000 in
theorem iLdSize (v : Value) (ss : List ByteArray) (w : World) (hs : SS w v ss) (hf : fewS ss) :
    Calls Tryd.prog 30 #[v] w fun e w' => e = .returned (.int .u64 (((Lib.uvarint (jn ss).length).length : Nat) + ((jn ss).length : Nat))) ∧ Below w.heap.size w w' := by
  have HB := Lib.hid (bytesOf_any v ss w hs (by have := hf.1; omega))
  have HF := Lib.hid hf
  clear hs hf
  go_enter Tryd.func30, Tryd.ntmps30
  go_wp2_with fail
  refine HB.out.mono ?_
  rintro e w1 ⟨⟨v', rfl, hp⟩, hb1⟩
  have HU := Lib.hid (utilSize _ v' ss w1 hp HF.out)
  clear hp HB
  go_wp2_with fail
  refine HU.out.mono ?_
  rintro e w2 ⟨rfl, rfl⟩
  go_wp2
  go_ret
  exact ⟨rfl, hb1⟩

theorem SS.same {w w' : World} {v : Value} {ss : List ByteArray} (h : SS w v ss) (e : w = w') : SS w' v ss := e ▸ h

set_option maxRecDepth 100000 in
set_option maxHeartbeats 4000000 in
theorem law_LdWrite (v : Value) (ss : List ByteArray) (w : World) (hs : SS w v ss) (hn : ss.length ≤ 9223372036854775807) (e0 e1 : Addr) (t2 t3 : TypeId) (p2 p3 : Value) (he : UvErrs w.heap.size w e0 e1 (.iface t2 p2) (.iface t3 p3)) :
    Calls Tryd.prog 7 #[v] w fun e w' => e = .returned (.bool true) ∧ Below w.heap.size w w' := by
  have HF := Lib.hid (fits3_any v ss w hs hn)
  have HJ := Lib.hid (seJoined_any v ss w hs hn)
  have HS := Lib.hid hs
  have HO := fun W (h : Below w.heap.size w W) => Lib.hid (ldOne_any W e0 e1 t2 t3 p2 p3 ((he.keep (S := fun _ => False) h.keep (fun _ h => h.elim)).mono h.size))
  clear hs hn he
  go_enter Tryd.func7, Tryd.ntmps7
  go_wp2_with fail
  refine HF.out.mono ?_
  rintro e w1 ⟨⟨bo, rfl⟩, rfl⟩
  cases bo
  · go_wp2
    go_ret
    exact ⟨rfl, Below.refl _ _⟩
  · go_wp2_with fail
    refine HJ.out.mono ?_
    rintro e w1 ⟨hj, hb1⟩
    rcases hj with ⟨hf, rfl⟩ | ⟨hf, rfl⟩
    · have hl : (jn ss).length ≤ 819200 := by
        have h1 := jn_len ss 16384 hf.2
        have h2 := Nat.mul_le_mul_right 16384 hf.1
        omega
      obtain ⟨S, hS⟩ : ∃ S : ByteArray, S = ⟨(Lib.uvarint (jn ss).length).toArray⟩ := ⟨_, rfl⟩
      obtain ⟨J, hJ⟩ : ∃ J : ByteArray, J = ⟨(jn ss).toArray⟩ := ⟨_, rfl⟩
      have hSz : S.size = (Lib.uvarint (jn ss).length).length := by rw [hS]; exact List.size_toArray
      have hJz : J.size = (jn ss).length := by rw [hJ]; exact List.size_toArray
      have hS3 : S.size ≤ 3 := by rw [hSz]; exact uvarint_len3 (by omega)
      have hout : (⟨(Lib.uvarint (jn ss).length ++ jn ss).toArray⟩ : ByteArray) = S ++ J := by rw [hS, hJ, ba_cat']
      have HV := fun W => Lib.hid (spVarintS (jn ss).length (by omega) S hS W)
      have HW := fun W (h : Below w.heap.size w W) => Lib.hid (iLdWrite v ss W (HS.out.below h) hf.2 hf.1)
      have HZ := fun W (h : Below w.heap.size w W) => Lib.hid (iLdSize v ss W (HS.out.below h) hf)
      rw [hout] at HW
      rw [← hSz, ← hJz] at HZ
      rw [← hJz] at HV hl
      rw [← hJ]
      have hno : ¬ 9223372036854775807 < S.size + J.size := by omega
      clear hS hJ hSz hJz hout hf HF HJ
      go_wp2_with fail
      refine (HV _).out.mono ?_
      rintro e w2 ⟨⟨A, m, c, rfl, hcv⟩, hb2⟩
      have hk := hcv _ (Below.refl _ _)
      have b2 := below_next hb1 hb2
      have HW2 := HW _ b2
      clear hcv hb2 HV HW
      go_wp2_with fail
      refine HW2.out.mono ?_
      rintro e w3 ⟨rfl, hb3⟩
      have b3 := below_next b2 hb3
      have HZ3 := HZ _ b3
      clear HW2 HZ hb3 hk
      go_wp2_with fail
      refine HZ3.out.mono ?_
      rintro e w4 ⟨rfl, hb4⟩
      have b4 := below_next b3 hb4
      have HO4 := HO _ b4
      clear HZ3 HO hb4
      go_wp2_with fail
      refine HO4.out.mono ?_
      rintro e w5 ⟨rfl, hb5⟩
      have b5 := below_next b4 hb5
      go_wp2
      go_ret
      exact ⟨rfl, b5⟩
    · clear HO HJ HF hf
      go_wp2
      go_ret
      exact ⟨rfl, hb1⟩
end Go.Proofs.YthfgnhgijgjggaaDoor
