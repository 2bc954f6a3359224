/- Contracts: spec.little, spec.HeadBytes, spec.NewHead; impl.headOut, impl.C2Read. -/
import Derived.Test.YticnifjmicipnaaDoorC2I
import Derived.Test.YticnifjmicipnaaDoorUvF
import Derived.Lib.QuietBelow
namespace Go.Proofs.YticnifjmicipnaaDoor
open Go.RowKit Go.Sort

theorem leCells (n : Nat) (x : Int) (hx : (n : Int) = x) :
    (#[.int .u8 (x % 256), .int .u8 (x / 256 % 256), .int .u8 (x / 65536 % 256), .int .u8 (x / 16777216 % 256), .int .u8 (x / 4294967296 % 256), .int .u8 (x / 1099511627776 % 256), .int .u8 (x / 281474976710656 % 256), .int .u8 (x / 72057594037927936 % 256)] : Array Value)
      = (Lib.byteCells (Lib.leBytes 8 n)).toArray := by
  subst hx
  have h : ∀ m : Nat, (UInt8.ofNat (m % 256)).toNat = m % 256 := fun m => by simp
  simp only [Lib.leBytes, Lib.byteCells, List.map_cons, List.map_nil, h, Nat.div_div_eq_div_mul, Nat.reduceMul, Int.natCast_emod, Int.natCast_ediv]
  rfl

set_option maxRecDepth 100000 in
set_option maxHeartbeats 1000000 in
theorem little_any (n : Nat) (hn : n < 18446744073709551616) (w : World) :
    Calls Tryd.prog 19 #[.int .u64 n] w fun e w' => e = .returned (.string ⟨(Lib.leBytes 8 n).toArray⟩) ∧ Below w.heap.size w w' := by
  generalize hx : (n : Int) = x
  have HX := Lib.hid hx
  have HN := Lib.hid hn
  clear hx hn
  go_enter Tryd.func19, Tryd.ntmps19
  go_wp2
  refine wp_loop_rounds 9 ?_
  iterate 9 (rw [rounds_succ]; go_wp2)
  rw [leCells n x HX.out]
  have hrow := heap_alloc_new w (.cells (Lib.byteCells (Lib.leBytes 8 n)).toArray 71)
  have hbs := BS.of_row (c := 8) hrow (by rw [leBytes_len]; omega)
  rw [leBytes_len] at hbs
  have hcv := hbs.str (P := Tryd.prog) Tryd.underlying34 Tryd.underlying5 Tryd.underlying9
  have hbel : Below w.heap.size w (w.alloc (.cells (Lib.byteCells (Lib.leBytes 8 n)).toArray 71)) := (Below.refl _ _).alloc (Nat.le_refl _) _
  generalize w.alloc (.cells (Lib.byteCells (Lib.leBytes 8 n)).toArray 71) = w2 at hcv hbel ⊢
  clear hrow hbs
  rw [hcv]
  go_wp2
  go_ret
  exact ⟨rfl, hbel⟩

set_option maxRecDepth 100000 in
set_option maxHeartbeats 1000000 in
theorem headOut_any (a b c d e : Int) (w : World) :
    Calls Tryd.prog 22 #[.agg #[.int .u64 a, .int .u64 b, .int .u64 c, .int .u64 d, .int .u64 e]] w fun e' w' => e' = .returned (.agg #[.int .u64 a, .int .u64 b, .int .u64 c, .int .u64 d, .int .u64 e]) ∧ Below w.heap.size w w' := by
  go_enter Tryd.func22, Tryd.ntmps22
  go_wp2
  refine bodyPost_ret (results_cell_row rfl _ _ (w.heap.size + 1) 24 #[.int .u64 a, .int .u64 b, .int .u64 c, .int .u64 d, .int .u64 e] (0, 0) _ ?h1 ?h2 Tryd.underlying24 rfl ?h5) ?h6 ?h7
  case h1 => rfl
  case h2 => first | exact heap_alloc2_new _ _ _ | simp
  case h5 => kernel_rfl
  case h6 => rfl
  exact ⟨rfl, ((Below.refl _ _).alloc (Nat.le_refl _) _).alloc (by simp) _⟩

set_option maxRecDepth 100000 in
set_option maxHeartbeats 1000000 in
theorem newHead_any (a : Nat) (ha : a < 1000) (w : World) :
    Calls Tryd.prog 10 #[.int .u64 a] w fun e' w' => e' = .returned (.agg #[.int .u64 0, .int .u64 0, .int .u64 51, .int .u64 a, .int .u64 (51 + a : Nat)]) ∧ Below w.heap.size w w' := by
  go_enter Tryd.func10, Tryd.ntmps10
  go_wp2
  refine bodyPost_ret (results_cell_row rfl _ _ (w.heap.size) 24 #[.int .u64 0, .int .u64 0, .int .u64 51, .int .u64 a, .int .u64 (51 + a)] (0, 0) _ ?h1 ?h2 Tryd.underlying24 rfl ?h5) ?h6 ?h7
  case h1 => rfl
  case h2 => first | exact heap_alloc_new _ _ | simp
  case h5 => kernel_rfl
  case h6 => rfl
  exact ⟨rfl, (Below.refl _ _).alloc (Nat.le_refl _) _⟩

theorem ba_cat (a b : List UInt8) : (⟨a.toArray⟩ : ByteArray) ++ ⟨b.toArray⟩ = ⟨(a ++ b).toArray⟩ := by
  apply ByteArray.ext
  rw [ByteArray.data_append]; simp

set_option maxRecDepth 100000 in
set_option maxHeartbeats 1000000 in
theorem headBytes_any (a b c d e : Nat) (ha : a < 18446744073709551616) (hb : b < 18446744073709551616) (hc : c < 18446744073709551616) (hd : d < 18446744073709551616) (he : e < 18446744073709551616) (w : World) :
    Calls Tryd.prog 8 #[.agg #[.int .u64 a, .int .u64 b, .int .u64 c, .int .u64 d, .int .u64 e]] w fun e' w' => e' = .returned (.string ⟨(hdEnc a b c d e).toArray⟩) ∧ Below w.heap.size w w' := by
  have hout : (⟨(hdEnc a b c d e).toArray⟩ : ByteArray) = ⟨(Lib.leBytes 8 a).toArray⟩ ++ ⟨(Lib.leBytes 8 b).toArray⟩ ++ ⟨(Lib.leBytes 8 c).toArray⟩ ++ ⟨(Lib.leBytes 8 d).toArray⟩ ++ ⟨(Lib.leBytes 8 e).toArray⟩ := by
    rw [ba_cat, ba_cat, ba_cat, ba_cat]; rfl
  rw [hout]
  have hW : Below w.heap.size w (w.alloc (.cells #[.int .u64 a, .int .u64 b, .int .u64 c, .int .u64 d, .int .u64 e] 24)) := (Below.refl _ _).alloc (Nat.le_refl _) _
  have hrow := heap_alloc_new w (.cells #[.int .u64 a, .int .u64 b, .int .u64 c, .int .u64 d, .int .u64 e] 24)
  have hg := hrow
  clear hout
  go_enter Tryd.func8, Tryd.ntmps8
  go_wp2_with fail
  generalize w.alloc (.cells #[.int .u64 a, .int .u64 b, .int .u64 c, .int .u64 d, .int .u64 e] 24) = w1 at hW hrow ⊢
  have k0 := fun d' os => cell_in ((cell_of_row' (cur := [_, _, _, _, _]) hrow 0).trans rfl) d' os
  have k1 := fun d' os => cell_in ((cell_of_row' (cur := [_, _, _, _, _]) hrow 1).trans rfl) d' os
  have k2 := fun d' os => cell_in ((cell_of_row' (cur := [_, _, _, _, _]) hrow 2).trans rfl) d' os
  have k3 := fun d' os => cell_in ((cell_of_row' (cur := [_, _, _, _, _]) hrow 3).trans rfl) d' os
  have k4 := fun d' os => cell_in ((cell_of_row' (cur := [_, _, _, _, _]) hrow 4).trans rfl) d' os
  have c0 := fun d' os => Calls.regrown_of (little_any a ha (grow (redrawn w1 d') os))
  have c1 := fun d' os => Calls.regrown_of (little_any b hb (grow (redrawn w1 d') os))
  have c2 := fun d' os => Calls.regrown_of (little_any c hc (grow (redrawn w1 d') os))
  have c3 := fun d' os => Calls.regrown_of (little_any d hd (grow (redrawn w1 d') os))
  have c4 := fun d' os => Calls.regrown_of (little_any e he (grow (redrawn w1 d') os))
  clear hrow hg ha hb hc hd he
  have zz : ∀ n, (⟨(Lib.leBytes 8 n).toArray⟩ : ByteArray).size = 8 := fun n => by show (Lib.leBytes 8 n).toArray.size = 8; simp [leBytes_len]
  have y0 := zz a
  have y1 := zz b
  have y2 := zz c
  have y3 := zz d
  have y4 := zz e
  clear zz
  generalize h0 : (⟨(Lib.leBytes 8 a).toArray⟩ : ByteArray) = S0 at y0 c0
  have H0 := Lib.hid h0
  clear h0
  generalize h1 : (⟨(Lib.leBytes 8 b).toArray⟩ : ByteArray) = S1 at y1 c1
  have H1 := Lib.hid h1
  clear h1
  generalize h2 : (⟨(Lib.leBytes 8 c).toArray⟩ : ByteArray) = S2 at y2 c2
  have H2 := Lib.hid h2
  clear h2
  generalize h3 : (⟨(Lib.leBytes 8 d).toArray⟩ : ByteArray) = S3 at y3 c3
  have H3 := Lib.hid h3
  clear h3
  generalize h4 : (⟨(Lib.leBytes 8 e).toArray⟩ : ByteArray) = S4 at y4 c4
  have H4 := Lib.hid h4
  clear h4
  have y5 : (S0 ++ S1).size = 16 := by rw [ByteArray.size_append]; omega
  have y6 : (S0 ++ S1 ++ S2).size = 24 := by rw [ByteArray.size_append]; omega
  have y7 : (S0 ++ S1 ++ S2 ++ S3).size = 32 := by rw [ByteArray.size_append]; omega
  refine wp_region_quiet_below (by kernel_rfl) (by kernel_rfl) ?_
  repeat (any_goals (first | go_big_quiet_step (first | with_reducible exact c0 _ _ | with_reducible exact c1 _ _ | with_reducible exact c2 _ _ | with_reducible exact c3 _ _ | with_reducible exact c4 _ _) | quiet_step (first | with_reducible exact c0 _ _ | with_reducible exact c1 _ _ | with_reducible exact c2 _ _ | with_reducible exact c3 _ _ | with_reducible exact c4 _ _)))
  refine wpQuiet_nil ?_
  intro _ hw'
  obtain ⟨⟨dq, osq⟩, hw''⟩ := hw'
  subst hw''
  go_wp2
  go_ret
  exact ⟨by rw [H0.out, H1.out, H2.out, H3.out, H4.out]; rfl, below_next hW (below_regrown w1 dq osq)⟩
end Go.Proofs.YticnifjmicipnaaDoor
