/- Contracts: internalio.ToByteReader, index.ReadCodec, impl.IxCodec. FnIxCodec's walk. -/
import Derived.Test.YthldlpggconmcaaDoorRRdD
import Derived.Test.YthldlpggconmcaaDoorRCdQ
import Derived.Test.YthldlpggconmcaaDoorRUvD
namespace Go.Proofs.YthldlpggconmcaaDoorR
open Go.RowKit

set_option maxRecDepth 100000 in
set_option maxHeartbeats 1000000 in
theorem toByteReader (p : Nat) (w : World) : Calls Tryd.prog 70 #[rdV p] w fun e w' => e = .returned (rdV p) ∧ w' = w := by
  have hta : ∀ W, (Instr.typeAssert (rdV p) 122 126 true).run Tryd.prog W = .ok (.tuple #[rdV p, .bool true]) W := fun W => by kernel_rfl
  go_enter Tryd.func70, Tryd.ntmps70
  go_wp2
  go_ret
  exact ⟨rfl, rfl⟩

/-- What impl.IxCodec answers. -/
def UvR.ix : UvR → Value
  | .ok x _ => .tuple #[.int .u64 x, .bool true]
  | _ => .tuple #[.int .u64 0, .bool false]

set_option maxRecDepth 100000 in
set_option maxHeartbeats 1000000 in
theorem readCodec (p : Nat) (v : Value) (l : List UInt8) (w : World) (hr : Rdr w p v l 0) (e0 e1 : Addr) (t2 t3 : TypeId) (p2 p3 : Value) (he : UvErrs p w e0 e1 (.iface t2 p2) (.iface t3 p3)) :
    Calls Tryd.prog 43 #[rdV p] w fun e w' => e = .returned ((uvDec l).rd (.iface t2 p2) (.iface t3 p3) (if 0 = l.length then errV e0 else errV e1)) ∧ Keep (fun k => k = p) w w' := by
  have HB := Lib.hid (readUv p v l 0 w hr e0 e1 t2 t3 p2 p3 he)
  rw [List.drop_zero] at HB
  have HT := fun W => Lib.hid (toByteReader p W)
  obtain ⟨a, ha⟩ : ∃ a, (if 0 = l.length then errV e0 else errV e1) = errV a := by split <;> exact ⟨_, rfl⟩
  rw [ha] at HB ⊢
  clear ha hr he
  generalize uvDec l = r at HB ⊢
  go_enter Tryd.func43, Tryd.ntmps43
  go_wp2_with fail
  refine (HT _).out.mono ?_
  rintro e w1 ⟨rfl, rfl⟩
  go_wp2_with fail
  refine HB.out.mono ?_
  cases r <;> rintro e w2 ⟨rfl, _, hk⟩ <;> unfold UvR.rd <;> dsimp only <;> (
    go_wp2
    go_ret2
    exact ⟨rfl, hk⟩)

set_option maxRecDepth 100000 in
set_option maxHeartbeats 1000000 in
theorem ixCodec (s : ByteArray) (w : World) (hm : s.size ≤ 9223372036854775807) (e0 e1 : Addr) (t2 t3 : TypeId) (p2 p3 : Value) (he : UvErrs w.heap.size w e0 e1 (.iface t2 p2) (.iface t3 p3)) :
    Calls Tryd.prog 17 #[.string s] w fun e w' => e = .returned (uvDec s.data.toList).ix ∧ Below w.heap.size w w' := by
  obtain ⟨A, c, w1, hconv, hb1, hbs⟩ := conv_in' w s
  have hsz : s.data.toList.length = s.size := by rw [Array.length_toList]; rfl
  have HN := Lib.hid (newReader (.slice A s.size c) s.data.toList w1 hbs (by omega))
  have he1 := Lib.hid ((he.keep (S := fun _ => False) hb1.keep (fun _ h => h.elim)).mono hb1.size)
  clear hbs he hsz
  go_enter Tryd.func17, Tryd.ntmps17
  go_wp2_with fail
  refine HN.out.mono ?_
  rintro e w2 ⟨rfl, hr, hs2, hb2⟩
  have b2 : Below w.heap.size w w2 := below_next hb1 hb2
  have he2 := he1.out.keep (S := fun _ => False) hb2.keep (fun _ h => h.elim)
  have HC := Lib.hid (readCodec w1.heap.size _ _ w2 hr e0 e1 t2 t3 p2 p3 he2)
  have hw1 := hb1.size
  obtain ⟨a, ha⟩ : ∃ a, (if 0 = s.data.toList.length then errV e0 else errV e1) = errV a := by split <;> exact ⟨_, rfl⟩
  rw [ha] at HC
  clear hr he2 ha hb2 HN
  generalize w1.heap.size = q at *
  go_wp2_with fail
  refine HC.out.mono ?_
  cases hd : uvDec s.data.toList <;> have HD := Lib.hid hd <;> clear hd <;> rintro e w3 ⟨rfl, hk⟩ <;> unfold UvR.rd <;> dsimp only <;> (
    have b3 : Below w.heap.size w w3 := b2.trans (hk.below (fun k hk e => by omega) (by omega))
    clear hk
    go_wp2
    go_quiet (fail)
    go_wp2
    go_ret2
    exact ⟨by rw [HD.out]; rfl, b3.drewN _⟩)

theorem uvDec_1025 : uvDec (⟨#[129, 8]⟩ : ByteArray).data.toList = .ok 1025 2 := rfl

set_option maxRecDepth 100000 in
set_option maxHeartbeats 1000000 in
theorem law_IxCodec (s : ByteArray) (w : World) (e0 e1 : Addr) (t2 t3 : TypeId) (p2 p3 : Value) (he : UvErrs w.heap.size w e0 e1 (.iface t2 p2) (.iface t3 p3)) :
    Calls Tryd.prog 4 #[.string s] w fun e w' => e = .returned (.bool true) ∧ Below w.heap.size w w' := by
  by_cases h1 : s.size ≤ 2147483647
  · by_cases h2 : s.size ≤ 4096
    · have RV := fun W => Lib.hid (readVarint_any s W (by omega))
      have IX := fun W (h : Below w.heap.size w W) => Lib.hid (ixCodec s W (by omega) e0 e1 t2 t3 p2 p3 ((he.keep (S := fun _ => False) h.keep (fun _ h => h.elim)).mono h.size))
      have I1 := fun W (h : Below w.heap.size w W) => Lib.hid (ixCodec ⟨#[129, 8]⟩ W (by decide) e0 e1 t2 t3 p2 p3 ((he.keep (S := fun _ => False) h.keep (fun _ h => h.elim)).mono h.size))
      rw [uvDec_1025] at I1
      have b0 := Below.refl w.heap.size w
      clear he
      go_enter Tryd.func4, Tryd.ntmps4
      go_wp2_with fail
      refine (RV _).out.mono ?_
      cases hd : uvDec s.data.toList <;> rw [hd] at IX <;> clear hd RV <;> rintro e w1 ⟨rfl, rfl⟩ <;> unfold UvR.spec <;> dsimp only <;> (
        go_wp2_with fail
        refine (IX _ b0).out.mono ?_
        rintro e w2 ⟨rfl, b2⟩
        unfold UvR.ix
        dsimp only
        clear IX
        go_wp2_with fail
        refine (I1 _ b2).out.mono ?_
        rintro e w3 ⟨rfl, hb3⟩
        have b3 := below_next b2 hb3
        unfold UvR.ix
        dsimp only
        go_wp2
        go_ret
        exact ⟨rfl, b3⟩)
    · clear he
      go_enter Tryd.func4, Tryd.ntmps4
      go_wp2
      go_ret
      exact ⟨rfl, Below.refl _ _⟩
  · clear he
    go_enter Tryd.func4, Tryd.ntmps4
    go_wp2
    go_ret
    exact ⟨rfl, Below.refl _ _⟩
end Go.Proofs.YthldlpggconmcaaDoorR
