/- FnUvCut's walk: a varint that is cut off, or has needless zeros behind, is an error. -/
import Derived.Test.YticnifjmicipnaaDoorUvF
namespace Go.Proofs.YticnifjmicipnaaDoor
open Go.RowKit Go.Sort

theorem extract_size_le (s : ByteArray) (a b : Nat) : (s.extract a b).size ≤ s.size := by
  have h := congrArg List.length (Lib.extract_data s a b)
  have h1 : (s.extract a b).data.toList.length = (s.extract a b).size := by rw [Array.length_toList]; rfl
  have h2 : s.data.toList.length = s.size := by rw [Array.length_toList]; rfl
  rw [h1, List.length_take, List.length_drop, h2] at h
  omega

theorem ba_append (a b : ByteArray) : (a ++ b).data.toList = a.data.toList ++ b.data.toList := by
  obtain ⟨⟨l⟩⟩ := a
  obtain ⟨⟨r⟩⟩ := b
  simp
theorem ba_len (a : ByteArray) : a.data.toList.length = a.size := by rw [Array.length_toList]; rfl

theorem UvR.plain_no {r : UvR} (h : r.no) : r.plain = .tuple #[.int .u64 0, .int .i64 0, .bool false] := by
  cases r with
  | ok => exact False.elim h
  | _ => rfl

set_option maxRecDepth 100000 in
set_option maxHeartbeats 1000000 in
theorem law_UvCut (n : Nat) (cut zeros : Int) (hn : n < 18446744073709551616) (hc : 0 ≤ cut ∧ cut ≤ 255) (hz : 0 ≤ zeros ∧ zeros ≤ 255) (w : World) (T : TypeId) (p1 p2 p3 : Value)
    (h1 : w.cell? ⟨1, 0, none⟩ = some (.iface T p1)) (h2 : w.cell? ⟨2, 0, none⟩ = some (.iface T p2)) (h3 : w.cell? ⟨3, 0, none⟩ = some (.iface T p3)) :
    Calls Tryd.prog 4 #[.int .u64 n, .int .u8 cut, .int .u8 zeros] w fun e w' => e = .returned (.bool true) ∧ Below w.heap.size w w' := by
  obtain ⟨hc0, hc1⟩ := hc
  obtain ⟨hz0, hz1⟩ := hz
  by_cases hs : n < 128
  · have hl := Lib.uvarint_small hs
    go_enter Tryd.func4, Tryd.ntmps4
    go_wp2_with fail
    refine (uvPut_any n w hn).mono ?_
    rw [hl]
    rintro e w1 ⟨rfl, hb1⟩
    clear hl
    go_wp2_with fail
    refine (uvOne_any w1 T p1 p2 p3 (below_cell hb1 h1) (below_cell hb1 h2) (below_cell hb1 h3)).mono ?_
    rintro e w2 ⟨rfl, hb2⟩
    go_wp2
    go_ret
    exact ⟨rfl, below_next hb1 hb2⟩
  · obtain ⟨pre, c, hsp, hpre, hcl⟩ := uvarint_split n
    have hcut := uvDec_cut n
    have hL2 : 2 ≤ (Lib.uvarint n).length := by
      rw [Lib.uvarint_big (by omega)]; have := Lib.uvarint_pos (n / 128); simp; omega
    have hL10 := Lib.uvarint_length64 hn
    obtain ⟨u, hu⟩ : ∃ u, u = Lib.uvarint n := ⟨_, rfl⟩
    rw [← hu] at hsp hcut hL2 hL10
    have HU := Lib.hid hu
    have HS := Lib.hid hsp
    have HP := Lib.hid hpre
    have HC := Lib.hid hcut
    clear hu hsp hpre hcut
    obtain ⟨k, hk⟩ := Int.eq_ofNat_of_zero_le hc0
    subst hk
    go_enter Tryd.func4, Tryd.ntmps4
    go_wp2_with fail
    refine (uvPut_any n w hn).mono ?_
    rw [← HU.out]
    rintro e w1 ⟨rfl, hb1⟩
    have hr0 : 0 ≤ (k : Int) % (u.length : Int) := Int.emod_nonneg _ (by omega)
    have hr1 : (k : Int) % (u.length : Int) ≤ (u.length : Int) := Int.le_of_lt (Int.emod_lt_of_pos _ (by omega))
    go_wp2_with fail
    refine (uvRead_any _ w1 (Nat.le_trans (extract_size_le _ _ _) (by show u.length ≤ _; omega)) T p1 p2 p3 (below_cell hb1 h1) (below_cell hb1 h2) (below_cell hb1 h3)).mono ?_
    rw [show ((⟨u.toArray⟩ : ByteArray).extract 0 (k % u.length)).data.toList = u.take (k % u.length) by rw [Lib.extract_data]; simp, UvR.plain_no (HC.out (k % u.length) (Nat.mod_lt _ (by omega)))]
    rintro e w2 ⟨rfl, hb2⟩
    obtain ⟨q, hq⟩ : ∃ q, q + 1 = u.length := ⟨pre.length, by rw [HS.out]; simp⟩
    have hwr : IntKind.i64.wrap ((u.length : Int) - 1) = (u.length : Int) - 1 := IntWalk.i64_in _ (by omega)
    have hwn : ((u.length : Int) - 1).toNat = u.length - 1 := by omega
    have hcu : u[u.length - 1]? = some c := by rw [HS.out]; simp
    have hidx := idx_str (P := Tryd.prog) Tryd.underlying9 u (u.length - 1) c hcu ((u.length : Int) - 1) (by omega)
    have HQ := Lib.hid hq
    clear hq hcu
    have hor : bits .or .u8 (c.toNat : Int) 128 = ((c.toNat + 128 : Nat) : Int) := by rw [Lib.u8_or128_any _ (by omega) (by omega)]; omega
    have hcb : (c.toNat + 128).toUInt8.toNat = c.toNat + 128 := Lib.toUInt8_toNat (by omega)
    have hconv : (convert 34 9 (.slice (some ⟨w2.heap.size, 0, none⟩) 1 1)).run Tryd.prog (w2.alloc (.cells #[.int .u8 (bits .or .u8 (c.toNat : Int) 128)] 5)).drew = .ok (.string ⟨#[(c.toNat + 128).toUInt8]⟩) (w2.alloc (.cells #[.int .u8 (bits .or .u8 (c.toNat : Int) 128)] 5)).drew := by
      refine BS.str Tryd.underlying34 Tryd.underlying5 Tryd.underlying9 (l := [(c.toNat + 128).toUInt8]) ?_
      refine ⟨_, 1, rfl, Nat.le_refl _, fun _ => ⟨w2.heap.size, 0, rfl, fun j hj => ?_⟩⟩
      have : j = 0 := by simpa using hj
      subst this
      show ((w2.alloc _).cell? _) = _
      rw [Nat.zero_add, World.cell?_alloc_new, hor]
      rw [List.getElem_cons_zero, hcb]; rfl
    clear hor
    go_wp2_with fail
    go_region
    clear hconv hidx
    have hb3 : Below w2.heap.size w2 (w2.alloc (.cells #[.int .u8 (bits .or .u8 (c.toNat : Int) 128)] 5)).drew := ((Below.refl _ _).alloc (Nat.le_refl _) _).drew
    generalize (w2.alloc (.cells #[.int .u8 (bits .or .u8 (c.toNat : Int) 128)] 5)).drew = w3 at hb3 ⊢
    obtain ⟨z, rfl⟩ := Int.eq_ofNat_of_zero_le hz0
    have hin : Hid (∀ b ∈ (((⟨u.toArray⟩ : ByteArray).extract 0 (u.length - 1) ++ ⟨#[c + 128]⟩ : ByteArray)).data.toList, 128 ≤ b.toNat) := Lib.hid fun b hb => by
      rw [ba_append, Lib.extract_data] at hb
      simp only [List.drop_zero, Nat.sub_zero, List.mem_append] at hb
      rcases hb with hb | hb
      · rw [HS.out] at hb
        have e1 : (pre ++ [c]).length - 1 = pre.length := by simp
        rw [e1, List.take_left] at hb
        exact HP.out b hb
      · have : b = c + 128 := by simpa using hb
        subst this
        rw [UInt8.toNat_add]
        show 128 ≤ (c.toNat + 128) % 256
        omega
    have hsz : ((⟨u.toArray⟩ : ByteArray).extract 0 (u.length - 1) ++ ⟨#[c + 128]⟩ : ByteArray).size = u.length := by
      have h := congrArg List.length (ba_append ((⟨u.toArray⟩ : ByteArray).extract 0 (u.length - 1)) ⟨#[c + 128]⟩)
      rw [ba_len, Lib.extract_data] at h
      rw [h]; simp; omega
    generalize ((⟨u.toArray⟩ : ByteArray).extract 0 (u.length - 1) ++ ⟨#[c + 128]⟩ : ByteArray) = S0 at hin hsz ⊢
    have HZ := Lib.hid hsz
    clear hsz
    go_wp2_with fail
    go_loop [11, 12] (fun v i => ∃ (S : ByteArray) (m : Nat), v = .string S ∧ i = .int .i64 m ∧ Hid (∀ b ∈ S.data.toList, 128 ≤ b.toNat) ∧ 0 < S.size ∧ S.size + m ≤ 30) (fun _ i => (intOf i).toNat)
    case atStart => exact ⟨_, z % 8, rfl, by go_num, hin, by rw [HZ.out]; omega, by rw [HZ.out]; omega⟩
    case round =>
      obtain ⟨S, m, rfl, rfl, hS, hS0, hSm⟩ := hrel
      by_cases hm : 0 < m
      · have hS1 : (S ++ ⟨#[128]⟩ : ByteArray).size = S.size + 1 := by
          have h := congrArg List.length (ba_append S ⟨#[128]⟩)
          rw [ba_len] at h; rw [h]; simp
        have HS1 := Lib.hid hS1
        clear hS1
        go_wp2
        refine ⟨⟨_, m - 1, rfl, by go_num, Lib.hid fun b hb => ?_, by rw [HS1.out]; omega, by rw [HS1.out]; omega⟩, by simp [intOf]; omega⟩
        rw [ba_append] at hb
        simp only [List.mem_append] at hb
        rcases hb with hb | hb
        · exact hS.out b hb
        · have : b = 128 := by simpa using hb
          subst this; decide
      · obtain rfl : m = 0 := by omega
        have hno : (uvDec ((S ++ ⟨#[0]⟩ : ByteArray)).data.toList).no := by
          rw [ba_append]
          exact uvGo_high0 _ 0 0 hS.out (by rw [ba_len]; omega)
        have hS1 : (S ++ ⟨#[0]⟩ : ByteArray).size = S.size + 1 := by
          have h := congrArg List.length (ba_append S ⟨#[0]⟩)
          rw [ba_len] at h; rw [h]; simp
        have HNO := Lib.hid hno
        have HS1 := Lib.hid hS1
        clear hno hS1
        have hb4 := below_next (below_next hb1 hb2) hb3
        go_wp2_with fail
        refine (uvRead_any _ w3 (by rw [HS1.out]; omega) T p1 p2 p3 (below_cell hb4 h1) (below_cell hb4 h2) (below_cell hb4 h3)).mono ?_
        rw [UvR.plain_no HNO.out]
        rintro e w4 ⟨rfl, hb5⟩
        have hb6 := below_next hb4 hb5
        go_wp2_with fail
        refine (uvOne_any w4 T p1 p2 p3 (below_cell hb6 h1) (below_cell hb6 h2) (below_cell hb6 h3)).mono ?_
        rintro e w5 ⟨rfl, hb7⟩
        go_wp2
        go_ret
        exact ⟨rfl, below_next hb6 hb7⟩
end Go.Proofs.YticnifjmicipnaaDoor
