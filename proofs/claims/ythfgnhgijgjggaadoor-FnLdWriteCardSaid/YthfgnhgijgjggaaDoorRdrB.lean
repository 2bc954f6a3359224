/- Contracts of a reader over bytes, part 2: io.ReadAtLeast where the bytes end; io.ReadFull. -/
import Derived.Test.YthfgnhgijgjggaaDoorRdr
namespace Go.Proofs.YthfgnhgijgjggaaDoor
open Go.RowKit

set_option maxRecDepth 100000 in
set_option maxHeartbeats 1000000 in
theorem rdAtLeast_cut (p n c g K : Nat) (v : Value) (l : List UInt8) (i : Nat) (cur : List Value) (t : TypeId) (w : World) (hr : Rdr w p v l i) (hpg : p < g) (hg : w.heap[g]? = some (.cells cur.toArray t (0, 0))) (hn : cur.length = n) (hc : n ≤ c)
    (b1 : n ≤ 9223372036854775807) (hK : K = l.length - i) (hK0 : 0 < K) (hKn : K < n) (e0 e1 : Addr) (he : ErrAt p w 0 e0) (he1 : ErrAt p w 5 e1) :
    Calls Tryd.prog 107 #[rdV p, .slice (some ⟨g, 0, none⟩) n c, .int .i64 n] w fun e w' => e = .returned (.tuple #[.int .i64 K, errV e1]) ∧ Rdr w' p v l l.length ∧ Keep (fun k => k = p ∨ k = g) w w' := by
  have hL := hr.fits
  have hle := hr.le
  have HR := Lib.hid (rdRead_some p g 0 n c v l i cur t (some ⟨g, 0, none⟩) w.drew hr.drew (by omega) hpg hg (fun _ => rfl) (by omega))
  have hmin : min n (l.length - i) = K := by omega
  have hmin2 : i + K = l.length := by omega
  have HMIN := Lib.hid hmin
  have HMIN2 := Lib.hid hmin2
  have hsl := fun W => run_from (P := Tryd.prog) Tryd.underlying43 info_u8 (some ⟨g, 0, none⟩) n c 0 (by omega) W
  have hsl2 := fun W => run_from (P := Tryd.prog) Tryd.underlying43 info_u8 (some ⟨g, 0, none⟩) n c K (by omega) W
  rw [cutA_own _ _ _ _ (by omega), Nat.zero_add] at hsl2
  have hmf : ∀ (fn : Fn) (first cap : Array Value) (w : World), (Instr.makeFunc fn first cap).run Tryd.prog w = .ok (.func fn first cap) w := fun _ _ _ _ => rfl
  have hna := fun w => nil_rdRead ⟨p, 0, none⟩ w
  have hme := fun w => method_rdRead ⟨p, 0, none⟩ w
  have HE := Lib.hid he
  have HE1 := Lib.hid he1
  clear hr hg hn hmin hmin2 he he1 hL hle hK
  go_enter Tryd.func107, Tryd.ntmps107
  go_wp2
  refine wp_loop_rounds 3 ?_
  rw [rounds_succ]
  go_wp2_with fail
  go_region_with (go_at_call 141; refine HR.out.mono ?_; rw [HMIN.out, HMIN2.out]; rintro e w1 ⟨rfl, hr1, hg1, hk1⟩)
  have hk1' := (keep_drew (fun k => k = p ∨ k = g) w).trans hk1
  have q1 : ErrAt p w1 0 e0 := HE.out.keep hk1' (fun k h => by omega)
  have q2 : ErrAt p w1 5 e1 := HE1.out.keep hk1' (fun k h => by omega)
  have HR2 := Lib.hid (rdRead_end p (n - K) (c - K) v l l.length (some ⟨g, K, none⟩) w1.drew hr1.drew rfl e0 q1.drew)
  clear HR hg1 hk1
  go_wp2
  rw [rounds_succ]
  go_wp2_with fail
  go_region_with (go_at_call 141; refine HR2.out.mono ?_; rintro e w2 ⟨rfl, hk2⟩)
  have k1 : w2.cell? ⟨0, 0, none⟩ = _ := hk2.cell q1.drew.cell (fun h => h)
  have k2 : w2.cell? ⟨5, 0, none⟩ = _ := hk2.cell q2.drew.cell (fun h => h)
  have keq := run_eqErr_same e0
  go_wp2
  rw [rounds_succ]
  go_wp2
  go_ret2
  have hk3 : Keep (fun _ => False) w1 w2 := (keep_drew _ w1).trans hk2
  exact ⟨rfl, hr1.keep hk3 (fun _ h => h.elim), hk1'.trans (hk3.mono fun _ _ h => h.elim)⟩

set_option maxRecDepth 100000 in
set_option maxHeartbeats 1000000 in
theorem rdAtLeast_zero (p c : Nat) (A : Option Addr) (w : World) :
    Calls Tryd.prog 107 #[rdV p, .slice A 0 c, .int .i64 0] w fun e w' => e = .returned (.tuple #[.int .i64 0, .nilIface]) ∧ w' = w := by
  go_enter Tryd.func107, Tryd.ntmps107
  go_wp2
  refine wp_loop_rounds 1 ?_
  rw [rounds_succ]
  go_wp2
  go_ret2
  exact ⟨rfl, rfl⟩

/-- io.ReadFull where the bytes are there. -/
theorem rdFull_ok (p g n c : Nat) (v : Value) (l : List UInt8) (i : Nat) (cur : List Value) (t : TypeId) (w : World) (hr : Rdr w p v l i) (hpg : p < g)
    (hg : w.heap[g]? = some (.cells cur.toArray t (0, 0))) (hn : cur.length = n) (hi : i + n ≤ l.length) :
    Calls Tryd.prog 87 #[rdV p, .slice (some ⟨g, 0, none⟩) n c] w fun e w' => e = .returned (.tuple #[.int .i64 n, .nilIface]) ∧ Rdr w' p v l (i + n) ∧
      Hid (w'.heap[g]? = some (.cells (Lib.byteCells ((l.drop i).take n)).toArray t (0, 0))) ∧ Keep (fun k => k = p ∨ k = g) w w' := by
  rcases Nat.eq_zero_or_pos n with h0 | h0
  · subst h0
    have hcur : cur = [] := List.eq_nil_of_length_eq_zero hn
    subst hcur
    have HR := Lib.hid (rdAtLeast_zero p c (some ⟨g, 0, none⟩) w)
    have HR0 := Lib.hid hr
    have HG := Lib.hid hg
    clear hr hg hi hn
    go_enter Tryd.func87, Tryd.ntmps87
    go_wp2_with fail
    refine HR.out.mono ?_
    rintro e w1 ⟨rfl, rfl⟩
    go_wp2
    go_ret2
    exact ⟨rfl, HR0.out, HG, Keep.refl _ _⟩
  · have HR := Lib.hid (rdAtLeast_ok p g n c v l i cur t w hr hpg hg h0 hn hi)
    have hL := hr.fits
    have b1 : n ≤ 9223372036854775807 := by omega
    clear hr hg hi hn
    go_enter Tryd.func87, Tryd.ntmps87
    go_wp2_with fail
    refine HR.out.mono ?_
    rintro e w1 ⟨rfl, h1, h2, h3⟩
    go_wp2
    go_ret2
    exact ⟨rfl, h1, h2, h3⟩

/-- .. where they end: io.EOF where there is none, io.ErrUnexpectedEOF where there are too few. -/
theorem rdFull_short (p g n c K : Nat) (v : Value) (l : List UInt8) (i : Nat) (cur : List Value) (t : TypeId) (w : World) (hr : Rdr w p v l i) (hpg : p < g) (hg : w.heap[g]? = some (.cells cur.toArray t (0, 0))) (hn : cur.length = n) (hc : n ≤ c)
    (b1 : n ≤ 9223372036854775807) (hK : K = l.length - i) (hKn : K < n) (e0 e1 : Addr) (he : ErrAt p w 0 e0) (he1 : ErrAt p w 5 e1) :
    Calls Tryd.prog 87 #[rdV p, .slice (some ⟨g, 0, none⟩) n c] w fun e w' => e = .returned (.tuple #[.int .i64 K, errV (if K = 0 then e0 else e1)]) ∧ Rdr w' p v l l.length ∧ Keep (fun k => k = p ∨ k = g) w w' := by
  have hle := hr.le
  rcases Nat.eq_zero_or_pos K with h0 | h0
  · subst h0
    have hi : i = l.length := by omega
    subst hi
    have HR := Lib.hid (rdAtLeast_end p n c g v l _ w hr hKn b1 rfl e0 he)
    have HR0 := Lib.hid hr
    clear hr hg hn he he1 hK hle
    go_enter Tryd.func87, Tryd.ntmps87
    go_wp2_with fail
    refine HR.out.mono ?_
    rintro e w1 ⟨rfl, hk⟩
    go_wp2
    go_ret2
    exact ⟨rfl, HR0.out.keep hk (fun _ h => h.elim), hk.mono fun _ _ h => h.elim⟩
  · have HR := Lib.hid (rdAtLeast_cut p n c g K v l i cur t w hr hpg hg hn hc b1 hK h0 hKn e0 e1 he he1)
    rw [if_neg (by omega)]
    clear hr hg hn he he1 hK hle
    go_enter Tryd.func87, Tryd.ntmps87
    go_wp2_with fail
    refine HR.out.mono ?_
    rintro e w1 ⟨rfl, h1, h2⟩
    go_wp2
    go_ret2
    exact ⟨rfl, h1, h2⟩

/-- bytes.NewReader: a new block. -/
theorem newReader (v : Value) (l : List UInt8) (w : World) (hv : BS w v l) (hL : l.length ≤ 9223372036854775807) :
    Calls Tryd.prog 49 #[v] w fun e w' => e = .returned (.pointer (some ⟨w.heap.size, 0, none⟩)) ∧ Rdr w' w.heap.size v l 0 ∧ w'.heap.size = w.heap.size + 1 ∧ Below w.heap.size w w' := by
  have hb : BSo (fun k => w.heap.size ≤ k) w v l := by
    refine ⟨hv, fun h0 A n c a e1 e2 => ?_⟩
    obtain ⟨A', c', e3, _, hcl⟩ := hv
    obtain ⟨b, o, e4, hcl⟩ := hcl h0
    have h1 := block_of_cell (hcl 0 h0)
    rw [e1] at e3
    injection e3 with e3
    rw [← e3, e2] at e4
    injection e4 with e4
    rw [e4]
    exact Nat.not_le.2 h1
  obtain ⟨A, c, rfl, _, hcl⟩ := hv
  have HB := Lib.hid hb
  clear hcl hb
  go_enter Tryd.func49, Tryd.ntmps49
  go_wp2
  go_ret
  have hbel : Below w.heap.size w (w.alloc (.cells #[.slice A l.length c, .int .i64 0, .int .i64 (-1)] 163)) := (Below.refl _ _).alloc (Nat.le_refl _) _
  exact ⟨rfl, ⟨⟨-1, heap_alloc_new _ _⟩, HB.out.keep (S := fun k => w.heap.size ≤ k) hbel.keep, Nat.zero_le _, hL⟩, by simp, hbel⟩
end Go.Proofs.YthfgnhgijgjggaaDoor
