/- FnLdZero's walk: a section of no bytes. -/
import Derived.Test.YthfgnhgijgjggaaDoorLwE
namespace Go.Proofs.YthfgnhgijgjggaaDoor
open Go.RowKit

theorem uvDec_zero (l : List UInt8) : uvDec (0 :: l) = .ok 0 1 := rfl

set_option maxRecDepth 100000 in
set_option maxHeartbeats 4000000 in
theorem law_LdZero (s : ByteArray) (z : Bool) (most : Nat) (w : World) (e0 e1 : Addr) (t2 t3 : TypeId) (p2 p3 : Value) (he : UvErrs w.heap.size w e0 e1 (.iface t2 p2) (.iface t3 p3)) :
    Calls Tryd.prog 6 #[.string s, .bool z, .int .u64 most] w fun e w' => e = .returned (.bool true) ∧ Below w.heap.size w w' := by
  by_cases h1 : s.size ≤ 2147483647
  · by_cases h2 : s.size ≤ 16384
    · by_cases h3 : most ≤ 33554432
      · have HO := fun W (h : Below w.heap.size w W) => Lib.hid (ldOne_any W e0 e1 t2 t3 p2 p3 ((he.keep (S := fun _ => False) h.keep (fun _ h => h.elim)).mono h.size))
        obtain ⟨S, hS⟩ : ∃ S : ByteArray, S = ⟨#[0]⟩ ++ s := ⟨_, rfl⟩
        have hSl : S.data.toList = 0 :: s.data.toList := by rw [hS, ba_append]; rfl
        have hSz : S.size = s.size + 1 := by rw [← ba_len S, hSl, List.length_cons, ba_len]
        have hd : uvDec S.data.toList = .ok 0 1 := by rw [hSl]; exact uvDec_zero _
        have hno : ¬ 9223372036854775807 < 1 + s.size := by omega
        cases z
        · have HR := Lib.hid (iLdRead_ok S (by omega) w e0 e1 t2 t3 p2 p3 he 0 1 hd false most (by omega) (fun h => by cases h) (by omega) ⟨#[]⟩ (by rw [List.take_zero]))
          rw [hS] at HR
          clear hd hSl hSz hS he
          go_enter Tryd.func6, Tryd.ntmps6
          go_wp2_with fail
          refine HR.out.mono ?_
          rintro e w1 ⟨rfl, hb1⟩
          have H2 := HO _ hb1
          clear HO HR
          go_wp2_with fail
          refine H2.out.mono ?_
          rintro e w2 ⟨rfl, hb2⟩
          have b2 := below_next hb1 hb2
          clear hb2 hb1
          go_wp2
          go_ret
          exact ⟨rfl, b2⟩
        · have HR := Lib.hid (iLdRead_end S (by omega) w e0 e1 t2 t3 p2 p3 he 1 hd most)
          rw [hS] at HR
          clear hd hSl hSz hS he
          go_enter Tryd.func6, Tryd.ntmps6
          go_wp2_with fail
          refine HR.out.mono ?_
          rintro e w1 ⟨rfl, hb1⟩
          have H2 := HO _ hb1
          clear HO HR
          go_wp2_with fail
          refine H2.out.mono ?_
          rintro e w2 ⟨rfl, hb2⟩
          have b2 := below_next hb1 hb2
          clear hb2 hb1
          go_wp2
          go_ret
          exact ⟨rfl, b2⟩
      · have h4 : (33554432 : Int) < (most : Int) := by omega
        clear h3 he
        go_enter Tryd.func6, Tryd.ntmps6
        go_wp2
        go_ret
        exact ⟨rfl, Below.refl _ _⟩
    · have h4 : 16384 < s.size := by omega
      clear h2 he
      go_enter Tryd.func6, Tryd.ntmps6
      go_wp2
      go_ret
      exact ⟨rfl, Below.refl _ _⟩
  · have h4 : 2147483647 < s.size := by omega
    clear h1 he
    go_enter Tryd.func6, Tryd.ntmps6
    go_wp2
    go_ret
    exact ⟨rfl, Below.refl _ _⟩
end Go.Proofs.YthfgnhgijgjggaaDoor
