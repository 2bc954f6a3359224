/- Contracts: impl.LdRead. -/
import Derived.Test.YthfgnhgijgjggaaDoorLdB
namespace Go.Proofs.YthfgnhgijgjggaaDoor
open Go.RowKit

theorem Keep.below' {w w' : World} (h : Keep (fun _ => False) w w') : Below w.heap.size w w' := h.below (fun _ _ h => h) (Nat.le_refl _)

set_option maxRecDepth 100000 in
set_option maxHeartbeats 4000000 in
theorem iLdRead_ok (s : ByteArray) (hs : s.size ≤ 2147483647) (w : World) (e0 e1 : Addr) (t2 t3 : TypeId) (p2 p3 : Value) (he : UvErrs w.heap.size w e0 e1 (.iface t2 p2) (.iface t3 p3)) (x m : Nat) (hd : uvDec s.data.toList = .ok x m) (z : Bool) (most : Nat) (hm : x ≤ most) (hz : z = true → x ≠ 0) (hx : m + x ≤ s.size) (D : ByteArray) (hD : D = ⟨((s.data.toList.drop m).take x).toArray⟩) :
    Calls Tryd.prog 25 #[.string s, .bool z, .int .u64 most] w fun e w' => e = .returned (.tuple #[.string D, .int .i64 ((m : Int) + x), .int .u8 0]) ∧ Below w.heap.size w w' := by
  obtain ⟨A, c, w1, hconv, hb1, hbs⟩ := conv_in' w s
  have hl : s.data.toList.length = s.size := by rw [Array.length_toList]; rfl
  obtain ⟨l, hll⟩ : ∃ l, l = s.data.toList := ⟨_, rfl⟩
  rw [← hll] at hbs hl hd hD
  obtain ⟨N, hN⟩ : ∃ N, N = s.size := ⟨_, rfl⟩
  have HN := Lib.hid (newReader (.slice A s.size c) l w1 hbs (by omega))
  have he1 := Lib.hid ((he.keep (S := fun _ => False) hb1.keep (fun _ h => h.elim)).mono hb1.size)
  have HD := Lib.hid hd
  have HL := Lib.hid hl
  have HX := Lib.hid hx
  have HDD := Lib.hid hD
  have g1 : IntKind.i64.wrap ((s.size : Int) - ((s.size : Int) - ((m : Int) + x))) = (m : Int) + x := by rw [IntWalk.i64_in _ (by omega)]; omega
  clear hbs he hl hll hd hN hx hD
  go_enter Tryd.func25, Tryd.ntmps25
  go_wp2_with fail
  refine HN.out.mono ?_
  rintro e w2 ⟨rfl, hr, hs2, hb2⟩
  have b2 : Below w.heap.size w w2 := below_next hb1 hb2
  have he2 := he1.out.keep (S := fun _ => False) hb2.keep (fun _ h => h.elim)
  have HC := Lib.hid (ldRead_ok w1.heap.size _ l 0 w2 hr e0 e1 t2 t3 p2 p3 he2 x m HD.out z most hm hz (by have := HX.out; have := HL.out; omega) (by have := HL.out; omega))
  rw [Nat.zero_add] at HC
  have hw1 := hb1.size
  clear hr he2 hb2 HN hb1 hconv
  generalize w1.heap.size = q at *
  go_wp2_with fail
  refine HC.out.mono ?_
  rintro e w3 ⟨⟨A3, c3, rfl, hbs3⟩, hr3, hk3⟩
  have b3 : Below w.heap.size w w3 := b2.trans (hk3.below (fun k hk e => by omega) (by omega))
  have hcv : ∀ W, Below w3.heap.size w3 W → (convert 43 9 (.slice A3 ((l.drop m).take x).length c3)).run Tryd.prog W = .ok (.string D) W := fun W hW => by rw [HDD.out]; exact (hbs3.below hW).str (dst := 9) Tryd.underlying43 Tryd.underlying5 Tryd.underlying9
  have HLen := Lib.hid (rdLen q _ l (m + x) w3.drew hr3.drew)
  rw [HL.out] at HLen
  have h0 : Below w3.heap.size w3 w3.drew := below_drewN _ _ 1
  have hk0 := hcv _ h0
  generalize ((l.drop m).take x).length = n3 at *
  clear hbs3 hr3 hk3 HC HDD
  go_wp2_with fail
  go_region_with (first
    | (go_at_call 51; (with_reducible refine HLen.out.mono ?_); rintro e w4 ⟨rfl, hk4⟩; have h4 := below_next h0 hk4.below'; have hk5 := hcv _ h4)
    | (go_at_call 52; (with_reducible refine (kind_nil _).mono ?_); rintro e w5 ⟨rfl, rfl⟩))
  all_goals
    have b4 := below_next b3 h4
    go_wp2
    go_ret3
    exact ⟨by first | rfl | (rw [← g1]; rfl), b4⟩

set_option maxRecDepth 100000 in
set_option maxHeartbeats 4000000 in
theorem iLdRead_end (s : ByteArray) (hs : s.size ≤ 2147483647) (w : World) (e0 e1 : Addr) (t2 t3 : TypeId) (p2 p3 : Value) (he : UvErrs w.heap.size w e0 e1 (.iface t2 p2) (.iface t3 p3)) (m : Nat) (hd : uvDec s.data.toList = .ok 0 m) (most : Nat) :
    Calls Tryd.prog 25 #[.string s, .bool true, .int .u64 most] w fun e w' => e = .returned (.tuple #[.string ⟨#[]⟩, .int .i64 m, .int .u8 1]) ∧ Below w.heap.size w w' := by
  obtain ⟨A, c, w1, hconv, hb1, hbs⟩ := conv_in' w s
  have hl : s.data.toList.length = s.size := by rw [Array.length_toList]; rfl
  have hmz : m ≤ s.size := by have := (uvDec_ok hd).2.1; omega
  obtain ⟨l, hll⟩ : ∃ l, l = s.data.toList := ⟨_, rfl⟩
  rw [← hll] at hbs hl hd
  have HN := Lib.hid (newReader (.slice A s.size c) l w1 hbs (by omega))
  have he1 := Lib.hid ((he.keep (S := fun _ => False) hb1.keep (fun _ h => h.elim)).mono hb1.size)
  have HD := Lib.hid hd
  have HL := Lib.hid hl
  have g1 : IntKind.i64.wrap ((s.size : Int) - ((s.size : Int) - (m : Int))) = (m : Int) := by rw [IntWalk.i64_in _ (by omega)]; omega
  clear hbs he hl hll hd
  go_enter Tryd.func25, Tryd.ntmps25
  go_wp2_with fail
  refine HN.out.mono ?_
  rintro e w2 ⟨rfl, hr, hs2, hb2⟩
  have b2 : Below w.heap.size w w2 := below_next hb1 hb2
  have he2 := he1.out.keep (S := fun _ => False) hb2.keep (fun _ h => h.elim)
  have HC := Lib.hid (ldRead_end w1.heap.size _ l 0 w2 hr e0 e1 t2 t3 p2 p3 he2 m HD.out most)
  rw [Nat.zero_add] at HC
  have HE2 := Lib.hid he2
  have hw1 := hb1.size
  clear hr he2 hb2 HN hb1 hconv
  generalize w1.heap.size = q at *
  go_wp2_with fail
  refine HC.out.mono ?_
  rintro e w3 ⟨rfl, hr3, hk3⟩
  have b3 : Below w.heap.size w w3 := b2.trans (hk3.below (fun k hk e => by omega) (by omega))
  have HE3 := HE2.out.keep hk3 (fun k h => by omega)
  have hcv : ∀ W, (convert 43 9 (.slice none 0 0)).run Tryd.prog W = .ok (.string ⟨#[]⟩) W := fun W => (BS.nil W 0).str (dst := 9) Tryd.underlying43 Tryd.underlying5 Tryd.underlying9
  have HLen := Lib.hid (rdLen q _ l m w3.drew hr3.drew)
  rw [HL.out] at HLen
  have h0 : Below w3.heap.size w3 w3.drew := below_drewN _ _ 1
  have HK := fun W (h : Keep (fun _ => False) w3.drew W) => Lib.hid (kind_end _ W e0 (((HE3.keep (S := fun _ => False) (keep_drew _ w3) (fun _ h => h.elim)).keep (S := fun _ => False) h (fun _ h => h.elim)).eof))
  clear hr3 hk3 HC HE2 HE3
  go_wp2_with fail
  go_region_with (first
    | (go_at_call 51; (with_reducible refine HLen.out.mono ?_); rintro e w4 ⟨rfl, hk4⟩; have h4 := below_next h0 hk4.below'; have HK4 := HK _ hk4)
    | (go_at_call 52; (with_reducible refine HK4.out.mono ?_); rintro e w5 ⟨rfl, rfl⟩))
  all_goals
    have b4 := below_next b3 h4
    clear HK
    go_wp2
    go_ret3
    exact ⟨by first | rfl | (rw [← g1]; rfl), b4⟩
end Go.Proofs.YthfgnhgijgjggaaDoor
