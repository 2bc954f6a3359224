/- Contracts: impl.CdPrefix, impl.CdPrefixRead. -/
import Derived.Test.YthfgnhgijgjggaaDoorPfB
import Derived.Test.YthfgnhgijgjggaaDoorCdI
import Derived.Test.YthfgnhgijgjggaaDoorCdP
namespace Go.Proofs.YthfgnhgijgjggaaDoor
open Go.RowKit

theorem results_tmp5 {fn : Func} {t1 t2 t3 t4 t5 : Tmp} (h : fn.results = #[.tmp t1, .tmp t2, .tmp t3, .tmp t4, .tmp t5]) (tmps : Array Value) (P : Program) (w : World) :
    (results fn tmps).run P w = .ok (.tuple #[tmps.getD t1 undef, tmps.getD t2 undef, tmps.getD t3 undef, tmps.getD t4 undef, tmps.getD t5 undef]) w := by
  simp [results, h]

set_option maxRecDepth 100000 in
set_option maxHeartbeats 4000000 in
theorem cdPrefixI (x : CidD) (ht : x.tidy) (d : ByteArray) (hcd : x.dig = d.data.toList) (hd : d.size ≤ 2147483600) (w : World) (hu : UvS w) :
    Calls Tryd.prog 21 #[.agg #[.int .u64 x.ver, .int .u64 x.codec, .int .u64 x.code, .string d]] w fun e w' => e = .returned (.tuple #[.string ⟨(pfEnc x.ver x.codec x.code d.size).toArray⟩, .bool true]) ∧ Below w.heap.size w w' := by
  have hA : Below w.heap.size w (w.alloc (cidO x.ver x.codec x.code d)) := (Below.refl _ _).alloc (Nat.le_refl _) _
  have hl : x.dig.length = d.size := by rw [hcd, ba_len]
  have HC := Lib.hid (cidIn_ok x ht d hcd hd _ (hu.below hA))
  have hs : CidStr ⟨(cidEnc x).toArray⟩ x := ⟨rfl, ht, by omega⟩
  have HP := fun W => Lib.hid (cdPrefix _ x hs W)
  rw [hl] at HP
  have hb0 : x.ver < 18446744073709551616 ∧ x.codec < 18446744073709551616 ∧ x.code < 18446744073709551616 := by
    rcases ht with ⟨h0, h1, h2, h3⟩ | ⟨h0, h1, h2⟩ <;> omega
  have HB := fun W => Lib.hid (pfBytes x.ver x.codec x.code d.size hb0.1 hb0.2.1 hb0.2.2 (by omega) W)
  clear hu hs ht hcd hd hl hb0
  generalize pfEnc x.ver x.codec x.code d.size = L at *
  generalize (⟨(cidEnc x).toArray⟩ : ByteArray) = S at *
  generalize (x.ver : Int) = c0 at *
  generalize (x.codec : Int) = c1 at *
  generalize (x.code : Int) = c2 at *
  go_enter Tryd.func21, Tryd.ntmps21
  go_wp2_with fail
  refine HC.out.mono ?_
  rintro e w1 ⟨rfl, hb1⟩
  have b1 := below_next hA hb1
  have b2 := b1.alloc b1.size (.cells #[.string S] 80)
  clear hb1 HC hA
  go_wp2_with fail
  refine (HP _).out.mono ?_
  rintro e w2 ⟨rfl, hb2⟩
  have b3 := below_next b2 hb2
  clear hb2
  go_wp2_with fail
  refine (HB _).out.mono ?_
  rintro e w3 ⟨⟨A, n, k, rfl, hbs⟩, hb3⟩
  have b4 := below_next b3 hb3
  have hcv := hbs.str (P := Tryd.prog) (dst := 9) Tryd.underlying43 Tryd.underlying5 Tryd.underlying9
  clear hb3 HP HB hbs
  go_wp2
  go_ret2
  exact ⟨rfl, b4⟩

set_option maxRecDepth 100000 in
set_option maxHeartbeats 4000000 in
theorem cdPrefixRead (a b c d : Nat) (ha : a < 9223372036854775808) (hb : b < 9223372036854775808) (hc : c < 9223372036854775808) (hd : d < 9223372036854775808) (w : World)
    (e0 e1 : Addr) (t2 t3 : TypeId) (p2 p3 : Value) (he : UvErrs w.heap.size w e0 e1 (.iface t2 p2) (.iface t3 p3)) :
    Calls Tryd.prog 22 #[.string ⟨(pfEnc a b c d).toArray⟩] w fun e w' => e = .returned (.tuple #[.int .u64 a, .int .u64 b, .int .u64 c, .int .i64 d, .bool true]) ∧ Below w.heap.size w w' := by
  obtain ⟨A, n, w1, hconv, hb1, hbs⟩ := conv_in' w ⟨(pfEnc a b c d).toArray⟩
  have HF := Lib.hid (pfFrom A _ n a b c d ha hb hc hd w1 hbs e0 e1 t2 t3 p2 p3 ((he.keep (S := fun _ => False) hb1.keep (fun _ h => h.elim)).mono hb1.size))
  clear hbs he
  generalize (⟨(pfEnc a b c d).toArray⟩ : ByteArray) = S at *
  go_enter Tryd.func22, Tryd.ntmps22
  go_wp2_with fail
  refine HF.out.mono ?_
  rintro e w2 ⟨rfl, hb2⟩
  have b3 := (below_next hb1 hb2).alloc (below_next hb1 hb2).size (.cells #[.int .u64 a, .int .u64 b, .int .u64 c, .int .i64 d] 91)
  have R3 := heap_alloc_new w2 (.cells #[.int .u64 a, .int .u64 b, .int .u64 c, .int .i64 d] 91)
  have c0 := cell_of_row' (cur := [_, _, _, _]) R3 0
  have c1 := cell_of_row' (cur := [_, _, _, _]) R3 1
  have c2 := cell_of_row' (cur := [_, _, _, _]) R3 2
  have c3 := cell_of_row' (cur := [_, _, _, _]) R3 3
  clear R3 hb2 hb1 HF hconv
  go_wp2
  go_quiet (fail)
  go_wp2
  (try simp only [Exit.inBlock, Exit.then])
  refine bodyPost_ret (results_tmp5 rfl _ _ _) rfl ?_
  exact ⟨rfl, b3.drewN _⟩
end Go.Proofs.YthfgnhgijgjggaaDoor
