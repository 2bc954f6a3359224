/- Contracts, joined (RdrB RdC RdD UvC MhPlain MhA MhB Bld). -/
import Derived.Test.YthfgnhgijgjggaaDoorJSh1
import Derived.BigQuiet
import Derived.LoopTactic
import Derived.Outline
import Derived.Lib.Builder
import Derived.Laws.AppendOwn
import Derived.OwnWalk
/- Contracts of a reader over bytes, part 2: io.ReadAtLeast where the bytes end; io.ReadFull. -/
namespace Go.Proofs.YthfgnhgijgjggaaDoor
open Go.RowKit

set_option maxRecDepth 100000 in
set_option maxHeartbeats 1000000 in
theorem rdAtLeast_cut (p n c g K : Nat) (v : Value) (l : List UInt8) (i : Nat) (cur : List Value) (t : TypeId) (w : World) (hr : Rdr w p v l i) (hpg : p < g) (hg : w.heap[g]? = some (.cells cur.toArray t (0, 0))) (hn : cur.length = n) (hc : n ≤ c)
    (b1 : n ≤ 9223372036854775807) (hK : K = l.length - i) (hK0 : 0 < K) (hKn : K < n) (e0 e1 : Addr) (he : ErrAt p w 0 e0) (he1 : ErrAt p w 5 e1) :
    Calls Tryd.prog 107 #[rdV p, .slice (some ⟨g, 0, none⟩) n c, .int .i64 n] w fun e w' => e = .returned (.tuple #[.int .i64 K, errV e1]) ∧ Rdr w' p v l l.length ∧ Keep (fun k => k = p ∨ k = g) w w' := by
  have hL := hr.fits
  have hle := hr.le
  have HR := Lib.hid (rdRead_some p g 0 n c v l i cur t (some ⟨g, 0, none⟩) w.drew hr.drew (by omega) hpg hg (fun _ => rfl) (by omega))
  have hmin : min n (l.length - i) = K := by omega
  have hmin2 : i + K = l.length := by omega
  have HMIN := Lib.hid hmin
  have HMIN2 := Lib.hid hmin2
  have hsl := fun W => run_from (P := Tryd.prog) Tryd.underlying43 info_u8 (some ⟨g, 0, none⟩) n c 0 (by omega) W
  have hsl2 := fun W => run_from (P := Tryd.prog) Tryd.underlying43 info_u8 (some ⟨g, 0, none⟩) n c K (by omega) W
  rw [cutA_own _ _ _ _ (by omega), Nat.zero_add] at hsl2
  have hmf : ∀ (fn : Fn) (first cap : Array Value) (w : World), (Instr.makeFunc fn first cap).run Tryd.prog w = .ok (.func fn first cap) w := fun _ _ _ _ => rfl
  have hna := fun w => nil_rdRead ⟨p, 0, none⟩ w
  have hme := fun w => method_rdRead ⟨p, 0, none⟩ w
  have HE := Lib.hid he
  have HE1 := Lib.hid he1
  clear hr hg hn hmin hmin2 he he1 hL hle hK
  go_enter Tryd.func107, Tryd.ntmps107
  go_wp2
  refine wp_loop_rounds 3 ?_
  rw [rounds_succ]
  go_wp2_with fail
  go_region_with (go_at_call 141; refine HR.out.mono ?_; rw [HMIN.out, HMIN2.out]; rintro e w1 ⟨rfl, hr1, hg1, hk1⟩)
  have hk1' := (keep_drew (fun k => k = p ∨ k = g) w).trans hk1
  have q1 : ErrAt p w1 0 e0 := HE.out.keep hk1' (fun k h => by omega)
  have q2 : ErrAt p w1 5 e1 := HE1.out.keep hk1' (fun k h => by omega)
  have HR2 := Lib.hid (rdRead_end p (n - K) (c - K) v l l.length (some ⟨g, K, none⟩) w1.drew hr1.drew rfl e0 q1.drew)
  clear HR hg1 hk1
  go_wp2
  rw [rounds_succ]
  go_wp2_with fail
  go_region_with (go_at_call 141; refine HR2.out.mono ?_; rintro e w2 ⟨rfl, hk2⟩)
  have k1 : w2.cell? ⟨0, 0, none⟩ = _ := hk2.cell q1.drew.cell (fun h => h)
  have k2 : w2.cell? ⟨5, 0, none⟩ = _ := hk2.cell q2.drew.cell (fun h => h)
  have keq := run_eqErr_same e0
  go_wp2
  rw [rounds_succ]
  go_wp2
  go_ret2
  have hk3 : Keep (fun _ => False) w1 w2 := (keep_drew _ w1).trans hk2
  exact ⟨rfl, hr1.keep hk3 (fun _ h => h.elim), hk1'.trans (hk3.mono fun _ _ h => h.elim)⟩

set_option maxRecDepth 100000 in
set_option maxHeartbeats 1000000 in
theorem rdAtLeast_zero (p c : Nat) (A : Option Addr) (w : World) :
    Calls Tryd.prog 107 #[rdV p, .slice A 0 c, .int .i64 0] w fun e w' => e = .returned (.tuple #[.int .i64 0, .nilIface]) ∧ w' = w := by
  go_enter Tryd.func107, Tryd.ntmps107
  go_wp2
  refine wp_loop_rounds 1 ?_
  rw [rounds_succ]
  go_wp2
  go_ret2
  exact ⟨rfl, rfl⟩

/-- io.ReadFull where the bytes are there. -/
theorem rdFull_ok (p g n c : Nat) (v : Value) (l : List UInt8) (i : Nat) (cur : List Value) (t : TypeId) (w : World) (hr : Rdr w p v l i) (hpg : p < g)
    (hg : w.heap[g]? = some (.cells cur.toArray t (0, 0))) (hn : cur.length = n) (hi : i + n ≤ l.length) :
    Calls Tryd.prog 87 #[rdV p, .slice (some ⟨g, 0, none⟩) n c] w fun e w' => e = .returned (.tuple #[.int .i64 n, .nilIface]) ∧ Rdr w' p v l (i + n) ∧
      Hid (w'.heap[g]? = some (.cells (Lib.byteCells ((l.drop i).take n)).toArray t (0, 0))) ∧ Keep (fun k => k = p ∨ k = g) w w' := by
  rcases Nat.eq_zero_or_pos n with h0 | h0
  · subst h0
    have hcur : cur = [] := List.eq_nil_of_length_eq_zero hn
    subst hcur
    have HR := Lib.hid (rdAtLeast_zero p c (some ⟨g, 0, none⟩) w)
    have HR0 := Lib.hid hr
    have HG := Lib.hid hg
    clear hr hg hi hn
    go_enter Tryd.func87, Tryd.ntmps87
    go_wp2_with fail
    refine HR.out.mono ?_
    rintro e w1 ⟨rfl, rfl⟩
    go_wp2
    go_ret2
    exact ⟨rfl, HR0.out, HG, Keep.refl _ _⟩
  · have HR := Lib.hid (rdAtLeast_ok p g n c v l i cur t w hr hpg hg h0 hn hi)
    have hL := hr.fits
    have b1 : n ≤ 9223372036854775807 := by omega
    clear hr hg hi hn
    go_enter Tryd.func87, Tryd.ntmps87
    go_wp2_with fail
    refine HR.out.mono ?_
    rintro e w1 ⟨rfl, h1, h2, h3⟩
    go_wp2
    go_ret2
    exact ⟨rfl, h1, h2, h3⟩

/-- .. where they end: io.EOF where there is none, io.ErrUnexpectedEOF where there are too few. -/
theorem rdFull_short (p g n c K : Nat) (v : Value) (l : List UInt8) (i : Nat) (cur : List Value) (t : TypeId) (w : World) (hr : Rdr w p v l i) (hpg : p < g) (hg : w.heap[g]? = some (.cells cur.toArray t (0, 0))) (hn : cur.length = n) (hc : n ≤ c)
    (b1 : n ≤ 9223372036854775807) (hK : K = l.length - i) (hKn : K < n) (e0 e1 : Addr) (he : ErrAt p w 0 e0) (he1 : ErrAt p w 5 e1) :
    Calls Tryd.prog 87 #[rdV p, .slice (some ⟨g, 0, none⟩) n c] w fun e w' => e = .returned (.tuple #[.int .i64 K, errV (if K = 0 then e0 else e1)]) ∧ Rdr w' p v l l.length ∧ Keep (fun k => k = p ∨ k = g) w w' := by
  have hle := hr.le
  rcases Nat.eq_zero_or_pos K with h0 | h0
  · subst h0
    have hi : i = l.length := by omega
    subst hi
    have HR := Lib.hid (rdAtLeast_end p n c g v l _ w hr hKn b1 rfl e0 he)
    have HR0 := Lib.hid hr
    clear hr hg hn he he1 hK hle
    go_enter Tryd.func87, Tryd.ntmps87
    go_wp2_with fail
    refine HR.out.mono ?_
    rintro e w1 ⟨rfl, hk⟩
    go_wp2
    go_ret2
    exact ⟨rfl, HR0.out.keep hk (fun _ h => h.elim), hk.mono fun _ _ h => h.elim⟩
  · have HR := Lib.hid (rdAtLeast_cut p n c g K v l i cur t w hr hpg hg hn hc b1 hK h0 hKn e0 e1 he he1)
    rw [if_neg (by omega)]
    clear hr hg hn he he1 hK hle
    go_enter Tryd.func87, Tryd.ntmps87
    go_wp2_with fail
    refine HR.out.mono ?_
    rintro e w1 ⟨rfl, h1, h2⟩
    go_wp2
    go_ret2
    exact ⟨rfl, h1, h2⟩

/-- bytes.NewReader: a new block. -/
theorem newReader (v : Value) (l : List UInt8) (w : World) (hv : BS w v l) (hL : l.length ≤ 9223372036854775807) :
    Calls Tryd.prog 49 #[v] w fun e w' => e = .returned (.pointer (some ⟨w.heap.size, 0, none⟩)) ∧ Rdr w' w.heap.size v l 0 ∧ w'.heap.size = w.heap.size + 1 ∧ Below w.heap.size w w' := by
  have hb : BSo (fun k => w.heap.size ≤ k) w v l := by
    refine ⟨hv, fun h0 A n c a e1 e2 => ?_⟩
    obtain ⟨A', c', e3, _, hcl⟩ := hv
    obtain ⟨b, o, e4, hcl⟩ := hcl h0
    have h1 := block_of_cell (hcl 0 h0)
    rw [e1] at e3
    injection e3 with e3
    rw [← e3, e2] at e4
    injection e4 with e4
    rw [e4]
    exact Nat.not_le.2 h1
  obtain ⟨A, c, rfl, _, hcl⟩ := hv
  have HB := Lib.hid hb
  clear hcl hb
  go_enter Tryd.func49, Tryd.ntmps49
  go_wp2
  go_ret
  have hbel : Below w.heap.size w (w.alloc (.cells #[.slice A l.length c, .int .i64 0, .int .i64 (-1)] 163)) := (Below.refl _ _).alloc (Nat.le_refl _) _
  exact ⟨rfl, ⟨⟨-1, heap_alloc_new _ _⟩, HB.out.keep (S := fun k => w.heap.size ≤ k) hbel.keep, Nat.zero_le _, hL⟩, by simp, hbel⟩
end Go.Proofs.YthfgnhgijgjggaaDoor
/- Contracts: (*bytes.Reader).ReadByte. -/
namespace Go.Proofs.YthfgnhgijgjggaaDoor
open Go.RowKit

set_option maxRecDepth 100000 in
set_option maxHeartbeats 1000000 in
/-- A byte that is there is read. -/
theorem rdByte_some (p : Nat) (v : Value) (l : List UInt8) (i : Nat) (w : World) (hr : Rdr w p v l i) (hi : i < l.length) :
    Calls Tryd.prog 142 #[.pointer (some ⟨p, 0, none⟩)] w fun e w' => e = .returned (.tuple #[.int .u8 (l[i].toNat), .nilIface]) ∧ Rdr w' p v l (i + 1) ∧ Keep (fun k => k = p) w w' := by
  obtain ⟨⟨r, hrow⟩, hbs, hle, hfits⟩ := hr
  have HB := Lib.hid hbs
  obtain ⟨⟨A0, c0, rfl, hc0, hcl⟩, hout⟩ := hbs
  obtain ⟨b, o, rfl, hcl2⟩ := hcl (by omega)
  have hbp : ¬ p ≤ b := hout (by omega) _ _ _ _ rfl rfl
  have f2 : w.frozen? ⟨p, 2, none⟩ = false := frozen_of_row' (cur := [_, _, _]) hrow 2
  have h2 : w.cell? ⟨p, 2, none⟩ = some (.int .i64 r) := by rw [cell_of_row' (cur := [_, _, _]) hrow]; rfl
  have hcell := hcl2 i hi
  have k1 : Keep (fun k => k = p) w (w.setCell ⟨p, 2, none⟩ (.int .i64 (-1))) := Keep.setCell (S := fun k => k = p) (Keep.refl _ w) (show p = p from rfl) _ _
  have hrow2 := Lib.heap_setCell_same (i := 2) (w := w) hrow (.int .i64 (-1))
  obtain ⟨B, hB⟩ : ∃ B, B = l[i].toNat := ⟨_, rfl⟩
  rw [← hB] at hcell ⊢
  obtain ⟨N, hN⟩ : ∃ N, N = l.length := ⟨_, rfl⟩
  have HN := Lib.hid hN
  rw [← hN] at hi hfits
  clear hB hN hcl hcl2 hout hle hc0 hrow
  go_enter Tryd.func142, Tryd.ntmps142
  go_wp2
  generalize w.setCell ⟨p, 2, none⟩ (.int .i64 (-1)) = w2 at k1 hrow2 ⊢
  have hrow3 : w2.heap[p]? = some (.cells #[.slice (some ⟨b, o, none⟩) l.length c0, .int .i64 i, .int .i64 (-1)] 163 (0, 0)) := hrow2
  rw [← HN.out] at hrow3
  have h0 : w2.cell? ⟨p, 0, none⟩ = some (.slice (some ⟨b, o, none⟩) N c0) := by rw [cell_of_row' (cur := [_, _, _]) hrow3]; rfl
  have h1 : w2.cell? ⟨p, 1, none⟩ = some (.int .i64 i) := by rw [cell_of_row' (cur := [_, _, _]) hrow3]; rfl
  have f1 : w2.frozen? ⟨p, 1, none⟩ = false := frozen_of_row' (cur := [_, _, _]) hrow3 1
  have hc2 : w2.cell? ⟨b, o + i, none⟩ = some (.int .u8 B) := k1.cell hcell (by show ¬ b = p; omega)
  have HROW := Lib.hid hrow3
  clear hrow2 hrow3 f2 h2 hcell
  go_quiet (fail)
  go_wp2
  go_quiet (fail)
  go_wp2
  go_ret2
  refine ⟨rfl, ⟨⟨-1, ?_⟩, ?_, ?_, ?_⟩, ?_⟩
  · have h := Lib.heap_setCell_same (i := 1) HROW.out (.int .i64 ((i : Int) + 1))
    rw [← HN.out]
    exact h
  · exact HB.out.keep (Keep.setCell (S := fun k => p ≤ k) ((k1.mono fun _ _ h => by omega).drewN _) (Nat.le_refl p) _ _)
  · rw [← HN.out]; omega
  · rw [← HN.out]; exact hfits
  · exact Keep.setCell (S := fun k => k = p) (k1.drewN _) (show p = p from rfl) _ _

set_option maxRecDepth 100000 in
set_option maxHeartbeats 1000000 in
/-- Behind the last byte the end is told. -/
theorem rdByte_end (p : Nat) (v : Value) (l : List UInt8) (i : Nat) (w : World) (hr : Rdr w p v l i) (hi : i = l.length) (e0 : Addr) (he : ErrAt p w 0 e0) :
    Calls Tryd.prog 142 #[.pointer (some ⟨p, 0, none⟩)] w fun e w' => e = .returned (.tuple #[.int .u8 0, errV e0]) ∧ Rdr w' p v l i ∧ Keep (fun k => k = p) w w' := by
  obtain ⟨⟨r, hrow⟩, hbs, hle, hfits⟩ := hr
  have HB := Lib.hid hbs
  obtain ⟨⟨A0, c0, rfl, hc0, hcl⟩, hout⟩ := hbs
  have f2 : w.frozen? ⟨p, 2, none⟩ = false := frozen_of_row' (cur := [_, _, _]) hrow 2
  have h2 : w.cell? ⟨p, 2, none⟩ = some (.int .i64 r) := by rw [cell_of_row' (cur := [_, _, _]) hrow]; rfl
  have k1 : Keep (fun k => k = p) w (w.setCell ⟨p, 2, none⟩ (.int .i64 (-1))) := Keep.setCell (S := fun k => k = p) (Keep.refl _ w) (show p = p from rfl) _ _
  have hrow2 := Lib.heap_setCell_same (i := 2) (w := w) hrow (.int .i64 (-1))
  have he2 := (he.keep k1 (fun k hk => by omega)).cell
  clear hcl hout hc0 hrow he
  go_enter Tryd.func142, Tryd.ntmps142
  go_wp2
  generalize w.setCell ⟨p, 2, none⟩ (.int .i64 (-1)) = w2 at k1 hrow2 he2 ⊢
  have hrow3 : w2.heap[p]? = some (.cells #[.slice A0 l.length c0, .int .i64 i, .int .i64 (-1)] 163 (0, 0)) := hrow2
  have h0 : w2.cell? ⟨p, 0, none⟩ = some (.slice A0 l.length c0) := by rw [cell_of_row' (cur := [_, _, _]) hrow3]; rfl
  have h1 : w2.cell? ⟨p, 1, none⟩ = some (.int .i64 i) := by rw [cell_of_row' (cur := [_, _, _]) hrow3]; rfl
  have HROW := Lib.hid hrow3
  clear hrow2 hrow3 f2 h2
  go_quiet (fail)
  go_wp2
  go_quiet (fail)
  go_wp2
  go_ret2
  exact ⟨rfl, ⟨⟨-1, HROW.out⟩, HB.out.keep (S := fun k => p ≤ k) (((k1.mono fun _ _ h => by omega).drewN _).drewN _), by omega, hfits⟩, (k1.drewN _).drewN _⟩
end Go.Proofs.YthfgnhgijgjggaaDoor
/- Contracts: varint.ReadUvarint over a reader of bytes. -/
namespace Go.Proofs.YthfgnhgijgjggaaDoor
open Go.RowKit

theorem nil_rdByte (a : Addr) (w : World) : (nilAhead 359 99 (.pointer (some a)) "ReadByte").run Tryd.prog w = .ok (some false) w := by kernel_rfl
theorem method_rdByte (a : Addr) (w : World) : (method 359 99 (.pointer (some a)) "ReadByte").run Tryd.prog w = .ok (142, .pointer (some a)) w := by kernel_rfl

/-- How ReadUvarint answers. -/
def UvR.rd (E1 E2 E3 : Value) : UvR → Value
  | .ok x _ => .tuple #[.int .u64 x, .nilIface]
  | .over => .tuple #[.int .u64 0, E1]
  | .notMin => .tuple #[.int .u64 0, E2]
  | .under => .tuple #[.int .u64 0, E3]
def UvR.at_ (i : Nat) : UvR → Nat → Prop
  | .ok _ m, j => j = i + m
  | _, _ => True

/-- The errors that ReadUvarint gives, below B. -/
structure UvErrs (B : Nat) (w : World) (e0 e1 : Addr) (E2 E3 : Value) : Prop where
  eof : ErrAt B w 0 e0
  unex : ErrAt B w 5 e1
  over : w.cell? ⟨2, 0, none⟩ = some E2
  lt2 : 2 < B
  notMin : w.cell? ⟨3, 0, none⟩ = some E3
  lt3 : 3 < B
theorem UvErrs.keep {B : Nat} {S : Nat → Prop} {w w' : World} {e0 e1 : Addr} {E2 E3 : Value} (h : UvErrs B w e0 e1 E2 E3) (hk : Keep S w w') (hS : ∀ k, S k → B ≤ k) : UvErrs B w' e0 e1 E2 E3 :=
  ⟨h.eof.keep hk hS, h.unex.keep hk hS, hk.cell h.over (fun hh => absurd (hS _ hh) (Nat.not_le.2 h.lt2)), h.lt2, hk.cell h.notMin (fun hh => absurd (hS _ hh) (Nat.not_le.2 h.lt3)), h.lt3⟩
theorem UvErrs.mono {B C : Nat} {w : World} {e0 e1 : Addr} {E2 E3 : Value} (h : UvErrs B w e0 e1 E2 E3) (hB : B ≤ C) : UvErrs C w e0 e1 E2 E3 :=
  ⟨h.eof.mono hB, h.unex.mono hB, h.over, Nat.lt_of_lt_of_le h.lt2 hB, h.notMin, Nat.lt_of_lt_of_le h.lt3 hB⟩

set_option maxRecDepth 100000 in
set_option maxHeartbeats 4000000 in
theorem readUv (p : Nat) (v : Value) (l : List UInt8) (i : Nat) (w : World) (hr : Rdr w p v l i) (e0 e1 : Addr) (t2 t3 : TypeId) (p2 p3 : Value) (he : UvErrs p w e0 e1 (.iface t2 p2) (.iface t3 p3)) :
    Calls Tryd.prog 83 #[rdV p] w fun e w' =>
      e = .returned ((uvDec (l.drop i)).rd (.iface t2 p2) (.iface t3 p3) (if i = l.length then errV e0 else errV e1)) ∧ (∃ j, (uvDec (l.drop i)).at_ i j ∧ Rdr w' p v l j) ∧ Keep (fun k => k = p) w w' := by
  have hna := fun w => nil_rdByte ⟨p, 0, none⟩ w
  have hme := fun w => method_rdByte ⟨p, 0, none⟩ w
  have hmf : ∀ (fn : Fn) (first cap : Array Value) (w : World), (Instr.makeFunc fn first cap).run Tryd.prog w = .ok (.func fn first cap) w := fun _ _ _ _ => rfl
  have heq := fun w => run_eqErr_same e0 w
  obtain ⟨hi0, hf0⟩ : i ≤ l.length ∧ l.length ≤ 9223372036854775807 := ⟨hr.le, hr.fits⟩
  have HR0 := Lib.hid hr
  have HE0 := Lib.hid he
  clear hr he
  go_enter Tryd.func83, Tryd.ntmps83
  go_wp2
  go_loopw [4, 5] (fun x s wr => ∃ (k X : Nat), i + k ≤ l.length ∧ k ≤ 9 ∧ X < 2 ^ (7 * k) ∧ s = .int .u64 (7 * k : Nat) ∧ x = .int .u64 X ∧ Hid (uvDec (l.drop i) = uvGo k X (l.drop (i + k))) ∧ Hid (Rdr wr p v l (i + k)) ∧ Keep (fun k => k = p) w wr) (fun _ s _ => 70 - (intOf s).toNat)
  case atStart => exact ⟨0, 0, by omega, by omega, by decide, rfl, rfl, Lib.hid rfl, HR0, Keep.refl _ _⟩
  case round =>
    obtain ⟨k, X, hk, hk10, hX, rfl, rfl, hd, HR, hkw⟩ := hrel
    have HE := Lib.hid (HE0.out.keep hkw (fun k hk => by omega))
    by_cases hlt : i + k < l.length
    · have HB := Lib.hid (rdByte_some p v l (i + k) wr HR.out hlt)
      have hb : l[i + k].toNat < 256 := UInt8.toNat_lt _
      obtain ⟨B, hB⟩ : ∃ B, B = l[i + k].toNat := ⟨_, rfl⟩
      rw [← hB] at HB hb
      have HBB := Lib.hid hB
      clear hB
      have hstep : uvGo k X (l.drop (i + k)) = (if (k = 8 ∧ 128 ≤ B) ∨ 9 ≤ k then .over
          else if B < 128 then (if B = 0 ∧ 0 < k then .notMin else .ok (X + B * 2 ^ (7 * k)) (k + 1))
          else uvGo (k + 1) (X + (B % 128) * 2 ^ (7 * k)) (l.drop (i + k + 1))) := by
        rw [List.drop_eq_getElem_cons hlt, uvGo, ← HBB.out]
      clear HBB
      go_wp2_with fail
      refine HB.out.mono ?_
      rintro e w1 ⟨rfl, hr1, hk1⟩
      have hkw1 := hkw.trans hk1
      have HE1 := HE.out.keep hk1 (fun k hk => by omega)
      have hc2 := HE1.over
      have hc3 := HE1.notMin
      have HR1 := Lib.hid hr1
      clear hr1 hk1 HE1 HB
      by_cases h9 : k = 9
      · subst h9
        have hfin : Hid (uvDec (l.drop i) = .over) := Lib.hid (by rw [hd.out, hstep, if_pos (Or.inr (by omega))])
        clear hd hstep
        go_wp2
        go_quiet (fail)
        go_wp2
        go_ret2
        exact ⟨by rw [hfin.out]; rfl, ⟨_, by rw [hfin.out]; trivial, HR1.out.keep (keep_drewN (fun _ => False) _ _) (fun _ h => h.elim)⟩, hkw1.drewN _⟩
      by_cases hge : 128 ≤ B
      · by_cases h8 : k = 8
        · subst h8
          have hfin : Hid (uvDec (l.drop i) = .over) := Lib.hid (by rw [hd.out, hstep, if_pos (Or.inl ⟨rfl, hge⟩)])
          clear hd hstep
          go_wp2
          go_quiet (fail)
          go_wp2
          go_ret2
          exact ⟨by rw [hfin.out]; rfl, ⟨_, by rw [hfin.out]; trivial, HR1.out.keep (keep_drewN (fun _ => False) _ _) (fun _ h => h.elim)⟩, hkw1.drewN _⟩
        · have hfin : Hid (uvDec (l.drop i) = uvGo (k + 1) (X + (B % 128) * 2 ^ (7 * k)) (l.drop (i + k + 1))) := Lib.hid (by
            rw [hd.out, hstep, if_neg (by omega), if_neg (by omega)])
          clear hd hstep
          have hk8 : ((7 * k : Nat) : Int) < 56 := by omega
          have hor := Lib.hid (uv_or_and k X B (by omega) hX hb)
          have hlt2 := uv_step_lt k X (B % 128) hX (by omega)
          go_wp2
          exact ⟨⟨k + 1, X + B % 128 * 2 ^ (7 * k), by omega, by omega, hlt2, by go_num, by rw [hor.out], hfin, HR1, hkw1⟩, by simp [intOf]; omega⟩
      · by_cases hz : B = 0 ∧ 0 < k
        · obtain ⟨rfl, hz⟩ := hz
          have hfin : Hid (uvDec (l.drop i) = .notMin) := Lib.hid (by rw [hd.out, hstep, if_neg (by omega), if_pos (by omega), if_pos ⟨rfl, hz⟩])
          clear hd hstep
          have hk9' : ((7 * k : Nat) : Int) < 63 := by omega
          by_cases hk8 : k = 8
          · subst hk8
            go_wp2
            go_quiet (fail)
            go_wp2
            go_ret2
            exact ⟨by rw [hfin.out]; rfl, ⟨_, by rw [hfin.out]; trivial, HR1.out.keep (keep_drewN (fun _ => False) _ _) (fun _ h => h.elim)⟩, hkw1.drewN _⟩
          · have hk8' : (((7 * k : Nat) : Int) == 56) = false := by simp; omega
            go_wp2
            go_quiet (fail)
            go_wp2
            go_ret2
            exact ⟨by rw [hfin.out]; rfl, ⟨_, by rw [hfin.out]; trivial, HR1.out.keep (keep_drewN (fun _ => False) _ _) (fun _ h => h.elim)⟩, hkw1.drewN _⟩
        · have hfin : Hid (uvDec (l.drop i) = .ok (X + B * 2 ^ (7 * k)) (k + 1)) := Lib.hid (by rw [hd.out, hstep, if_neg (by omega), if_pos (by omega), if_neg hz])
          have hor := Lib.hid (uv_or k X B (by omega) hX (by omega))
          clear hd hstep
          have hk9' : ((7 * k : Nat) : Int) < 63 := by omega
          by_cases hB0 : B = 0
          · subst hB0
            have hk0 : k = 0 := by omega
            subst hk0
            have hfin' : Hid (uvDec (l.drop i) = .ok X 1) := Lib.hid (by rw [hfin.out]; simp)
            clear hor hfin
            have hor0 : Hid (bits .or .u64 (X : Int) 0 = (X : Nat)) := Lib.hid (by rw [u64_orv0 _ _ (by omega) (by omega) (by omega) (by omega) (by omega)]; omega)
            go_wp2
            go_ret2
            exact ⟨by rw [hfin'.out, hor0.out]; rfl, ⟨_, by rw [hfin'.out]; exact rfl, HR1.out⟩, hkw1⟩
          · have hB0' : ((B : Int) == 0) = false := by simp; omega
            by_cases hk8 : k = 8
            · subst hk8
              have hor8 : Hid (bits .or .u64 (X : Int) ((B : Int) * 72057594037927936) = ((X + B * 2 ^ (7 * 8) : Nat) : Int)) := Lib.hid (by
                rw [← hor.out, IntWalk.u64_in _ (by omega)]; rfl)
              clear hor
              go_wp2
              go_ret2
              exact ⟨by rw [hfin.out, hor8.out]; rfl, ⟨_, by rw [hfin.out]; exact rfl, HR1.out⟩, hkw1⟩
            · have hk8' : (((7 * k : Nat) : Int) == 56) = false := by simp; omega
              go_wp2
              go_ret2
              exact ⟨by rw [hfin.out, hor.out]; rfl, ⟨_, by rw [hfin.out]; exact rfl, HR1.out⟩, hkw1⟩
    · have hkn : i + k = l.length := by omega
      have hfin : Hid (uvDec (l.drop i) = .under) := Lib.hid (by rw [hd.out, hkn, List.drop_length]; rfl)
      have HB := Lib.hid (rdByte_end p v l (i + k) wr HR.out hkn e0 HE.out.eof)
      clear hd
      go_wp2_with fail
      refine HB.out.mono ?_
      rintro e w1 ⟨rfl, hr1, hk1⟩
      have hkw1 := hkw.trans hk1
      have HE1 := HE.out.keep hk1 (fun k hk => by omega)
      have hc1 := HE1.eof.cell
      have hc4 := HE1.unex.cell
      have HR1 := Lib.hid hr1
      clear hr1 hk1 HE1 HB
      by_cases hk0 : k = 0
      · subst hk0
        have hil : i = l.length := by omega
        clear hkn hlt hk
        go_wp2
        go_ret2
        exact ⟨rfl, ⟨_, trivial, HR1.out⟩, hkw1⟩
      · have hk0' : (((7 * k : Nat) : Int) == 0) = false := by simp; omega
        have hil : ¬ i = l.length := by omega
        go_wp2
        go_ret2
        exact ⟨by rw [hfin.out]; rfl, ⟨_, by rw [hfin.out]; trivial, HR1.out⟩, hkw1⟩
end Go.Proofs.YthfgnhgijgjggaaDoor
namespace Go.Proofs.YthfgnhgijgjggaaDoor
open Go.RowKit

set_option maxRecDepth 100000 in
set_option maxHeartbeats 1000000 in
theorem fromUv_none (A : Option Addr) (c : Nat) (w : World) (T : TypeId) (p3 : Value) (h3 : w.cell? ⟨4, 0, none⟩ = some (.iface T p3)) :
    Calls Tryd.prog 79 #[.slice A 0 c] w fun e w' =>
      e = .returned (.tuple #[.int .u64 0, .int .i64 0, .iface T p3]) ∧ ∃ q, w' = w.drewN q := by
  go_enter Tryd.func79, Tryd.ntmps79
  go_wp2
  refine wp_loop_rounds 1 ?_
  rw [rounds_succ]
  go_wp2
  go_quiet (fail)
  go_wp2
  go_ret3
  exact ⟨rfl, _, rfl⟩

/-- varint.FromUvarint at whatever slice: it reads as uvDec says; its errors are the three sentinels. -/
theorem fromUv (A : Option Addr) (n c : Nat) (l : List UInt8) (w : World) (hs : BS w (.slice A n c) l) (hm : l.length ≤ 9223372036854775807)
    (T : TypeId) (p1 p2 p3 : Value)
    (h1 : w.cell? ⟨2, 0, none⟩ = some (.iface T p1)) (h2 : w.cell? ⟨3, 0, none⟩ = some (.iface T p2)) (h3 : w.cell? ⟨4, 0, none⟩ = some (.iface T p3)) :
    Calls Tryd.prog 79 #[.slice A n c] w fun e w' =>
      e = .returned ((uvDec l).val (.iface T p1) (.iface T p2) (.iface T p3)) ∧ ∃ q, w' = w.drewN q := by
  obtain ⟨hn, _⟩ := hs.slice
  rcases Nat.eq_zero_or_pos n with h0 | h0
  · subst h0
    have hl : l = [] := List.eq_nil_of_length_eq_zero hn.symm
    subst hl
    exact fromUv_none A c w T p3 h3
  · obtain ⟨b, o, rfl, hc⟩ := hs.at_ h0
    exact fromUv_any b o n c l w hn.symm (by omega) hc T p1 p2 p3 h1 h2 h3



/-- What impl.UvRead answers. -/
def UvR.plain : UvR → Value
  | .ok x m => .tuple #[.int .u64 x, .int .i64 m, .bool true]
  | _ => .tuple #[.int .u64 0, .int .i64 0, .bool false]

end Go.Proofs.YthfgnhgijgjggaaDoor
/- The plain law of multihashes: how one is read of bytes, how it is written. No program in sight. -/
namespace Go.Proofs.YthfgnhgijgjggaaDoor
open Go.RowKit

/-- Reading a multihash of the beginning of bytes: how many bytes it has, its code, its digest. -/
def mhRd (l : List UInt8) : Option (Nat × Nat × List UInt8) :=
  if l.length < 2 then none else
  match uvDec l with
  | .ok code n =>
    match uvDec (l.drop n) with
    | .ok len m => if 2147483647 < len ∨ ((l.drop n).drop m).length < len then none else some (n + m + len, code, ((l.drop n).drop m).take len)
    | _ => none
  | _ => none

/-- How a multihash is written. -/
def mhEnc (code : Nat) (d : List UInt8) : List UInt8 := Lib.uvarint code ++ (Lib.uvarint d.length ++ d)

/-- A number below 2^63 that is written is read, whatever stands behind it. -/
theorem uvGo_back : ∀ (f k X y : Nat) (more : List UInt8), k + f = 9 → X < 2 ^ (7 * k) → y < 2 ^ (7 * f) → (0 < k → 0 < y) → 0 < f →
    uvGo k X (Lib.uvarint y ++ more) = .ok (X + y * 2 ^ (7 * k)) (k + (Lib.uvarint y).length)
  | 0, _, _, _, _, _, _, _, _, h => by omega
  | f + 1, k, X, y, more, hkf, hX, hy, hpos, _ => by
    by_cases h : y < 128
    · have hb : y.toUInt8.toNat = y := by simp; omega
      rw [Lib.uvarint_small h]
      show uvGo k X (y.toUInt8 :: more) = _
      unfold uvGo
      rw [hb, if_neg (by omega), if_pos h, if_neg (by intro ⟨h1, h2⟩; have := hpos h2; omega)]
      simp
    · have hb : (y % 128 + 128).toUInt8.toNat = y % 128 + 128 := by simp; omega
      rw [Lib.uvarint_big (by omega), List.cons_append]
      have hf : 0 < f := by
        rcases Nat.eq_zero_or_pos f with h0 | h0
        · subst h0; simp at hy; omega
        · exact h0
      unfold uvGo
      rw [hb, if_neg (by omega), if_neg (by omega)]
      have hlt := uv_step_lt k X ((y % 128 + 128) % 128) hX (by omega)
      have e1 : (y % 128 + 128) % 128 = y % 128 := by omega
      have hp : 2 ^ (7 * (f + 1)) = 2 ^ (7 * f) * 128 := by rw [Nat.mul_add, Nat.pow_add]
      have hpk : 2 ^ (7 * (k + 1)) = 2 ^ (7 * k) * 128 := by rw [Nat.mul_add, Nat.pow_add]
      rw [uvGo_back f (k + 1) _ (y / 128) more (by omega) hlt (by rw [hp] at hy; omega) (by omega) hf, e1, hpk]
      congr 1
      · have : y = y / 128 * 128 + y % 128 := by omega
        have e2 : y * 2 ^ (7 * k) = y / 128 * (2 ^ (7 * k) * 128) + y % 128 * 2 ^ (7 * k) := by
          conv => lhs; rw [this]
          rw [Nat.add_mul, Nat.mul_assoc, Nat.mul_comm 128]
        omega
      · simp; omega

theorem uvDec_back (x : Nat) (hx : x < 9223372036854775808) (more : List UInt8) : uvDec (Lib.uvarint x ++ more) = .ok x (Lib.uvarint x).length := by
  have := uvGo_back 9 0 0 x more rfl (by decide) (by simpa using hx) (by omega) (by decide)
  simpa [uvDec] using this

theorem mhRd_enc (code : Nat) (d more : List UInt8) (hc : code < 9223372036854775808) (hd : d.length ≤ 2147483647) :
    mhRd (mhEnc code d ++ more) = some ((mhEnc code d).length, code, d) := by
  have h1 := Lib.uvarint_pos code
  have h2 := Lib.uvarint_pos d.length
  unfold mhRd mhEnc
  have e0 : Lib.uvarint code ++ (Lib.uvarint d.length ++ d) ++ more = Lib.uvarint code ++ (Lib.uvarint d.length ++ (d ++ more)) := by simp
  rw [e0, uvDec_back code hc]
  simp only [List.drop_left]
  rw [uvDec_back d.length (by omega)]
  simp only [List.drop_left, List.take_left]
  rw [if_neg (by simp; omega), if_neg (by simp; omega)]
  simp [Nat.add_assoc]

theorem uvR_cases (r : UvR) : (∃ x m, r = .ok x m) ∨ r.no := by
  cases r with
  | ok x m => exact .inl ⟨x, m, rfl⟩
  | _ => exact .inr trivial

theorem mhRd_some {l : List UInt8} {r code : Nat} {d : List UInt8} (h : mhRd l = some (r, code, d)) :
    2 ≤ l.length ∧ ∃ m1 x2 m2, uvDec l = .ok code m1 ∧ uvDec (l.drop m1) = .ok x2 m2 ∧ x2 ≤ 2147483647 ∧ x2 ≤ ((l.drop m1).drop m2).length ∧ r = m1 + m2 + x2 ∧ d = ((l.drop m1).drop m2).take x2 := by
  unfold mhRd at h
  by_cases h2 : l.length < 2
  · rw [if_pos h2] at h; cases h
  rw [if_neg h2] at h
  refine ⟨by omega, ?_⟩
  rcases uvR_cases (uvDec l) with ⟨x1, m1, e1⟩ | hno
  · rw [e1] at h
    dsimp only at h
    rcases uvR_cases (uvDec (l.drop m1)) with ⟨x2, m2, e2⟩ | hno
    · rw [e2] at h
      dsimp only at h
      by_cases h3 : 2147483647 < x2 ∨ ((l.drop m1).drop m2).length < x2
      · rw [if_pos h3] at h; cases h
      rw [if_neg h3] at h
      simp only [Option.some.injEq, Prod.mk.injEq] at h
      obtain ⟨rfl, rfl, rfl⟩ := h
      exact ⟨m1, x2, m2, e1, e2, by omega, by omega, rfl, rfl⟩
    · cases hh : uvDec (l.drop m1) with
      | ok => rw [hh] at hno; exact False.elim hno
      | _ => rw [hh] at h; cases h
  · cases hh : uvDec l with
    | ok => rw [hh] at hno; exact False.elim hno
    | _ => rw [hh] at h; cases h

theorem mhRd_none {l : List UInt8} (h : mhRd l = none) : l.length < 2 ∨ (2 ≤ l.length ∧ ((uvDec l).no ∨ ∃ x1 m1, uvDec l = .ok x1 m1 ∧
    ((uvDec (l.drop m1)).no ∨ ∃ x2 m2, uvDec (l.drop m1) = .ok x2 m2 ∧ (2147483647 < x2 ∨ (x2 ≤ 2147483647 ∧ ((l.drop m1).drop m2).length < x2))))) := by
  by_cases h2 : l.length < 2
  · exact .inl h2
  refine .inr ⟨by omega, ?_⟩
  unfold mhRd at h
  rw [if_neg h2] at h
  rcases uvR_cases (uvDec l) with ⟨x1, m1, e1⟩ | hno
  · refine .inr ⟨x1, m1, e1, ?_⟩
    rw [e1] at h
    dsimp only at h
    rcases uvR_cases (uvDec (l.drop m1)) with ⟨x2, m2, e2⟩ | hno
    · refine .inr ⟨x2, m2, e2, ?_⟩
      rw [e2] at h
      dsimp only at h
      by_cases h3 : 2147483647 < x2 ∨ ((l.drop m1).drop m2).length < x2
      · omega
      · rw [if_neg h3] at h; cases h
    · exact .inl hno
  · exact .inl hno
end Go.Proofs.YthfgnhgijgjggaaDoor
/- Contracts of package multihash: reading the varint, the multihash, taking it apart. -/
namespace Go.Proofs.YthfgnhgijgjggaaDoor
open Go.RowKit

/-- Variable g holds an error that is not nil. -/
def IsErr (w : World) (g : Nat) : Prop := ∃ t p, w.cell? ⟨g, 0, none⟩ = some (.iface t p)
theorem IsErr.below {w w' : World} {g : Nat} (h : IsErr w g) (hb : Below w.heap.size w w') : IsErr w' g := by
  obtain ⟨t, p, h⟩ := h; exact ⟨t, p, below_cell hb h⟩
/-- The three sentinels of package varint. -/
structure UvS (w : World) : Prop where
  T : ∃ T, (∃ p, w.cell? ⟨2, 0, none⟩ = some (.iface T p)) ∧ (∃ p, w.cell? ⟨3, 0, none⟩ = some (.iface T p)) ∧ (∃ p, w.cell? ⟨4, 0, none⟩ = some (.iface T p))
theorem UvS.below {w w' : World} (h : UvS w) (hb : Below w.heap.size w w') : UvS w' := by
  obtain ⟨T, ⟨p1, h1⟩, ⟨p2, h2⟩, ⟨p3, h3⟩⟩ := h.T
  exact ⟨T, ⟨p1, below_cell hb h1⟩, ⟨p2, below_cell hb h2⟩, ⟨p3, below_cell hb h3⟩⟩
/-- .. and those of package multihash. -/
structure MhS (w : World) : Prop extends UvS w where
  short : IsErr w 8
theorem MhS.below {w w' : World} (h : MhS w) (hb : Below w.heap.size w w') : MhS w' := ⟨h.toUvS.below hb, h.short.below hb⟩

theorem fromUv_ok (A : Option Addr) (n c : Nat) (l : List UInt8) (w : World) (hs : BS w (.slice A n c) l) (hm : l.length ≤ 9223372036854775807) (hu : UvS w) (x m : Nat) (h : uvDec l = .ok x m) :
    Calls Tryd.prog 79 #[.slice A n c] w fun e w' => e = .returned (.tuple #[.int .u64 x, .int .i64 m, .nilIface]) ∧ Below w.heap.size w w' := by
  obtain ⟨T, ⟨p1, h1⟩, ⟨p2, h2⟩, ⟨p3, h3⟩⟩ := hu.T
  refine (fromUv A n c l w hs hm T p1 p2 p3 h1 h2 h3).mono fun e w' ⟨he, q, hw⟩ => ⟨?_, ?_⟩
  · rw [he, h]; rfl
  · rw [hw]; exact below_drewN _ _ _

theorem fromUv_no (A : Option Addr) (n c : Nat) (l : List UInt8) (w : World) (hs : BS w (.slice A n c) l) (hm : l.length ≤ 9223372036854775807) (hu : UvS w) (h : (uvDec l).no) :
    Calls Tryd.prog 79 #[.slice A n c] w fun e w' => ∃ t p, e = .returned (.tuple #[.int .u64 0, .int .i64 0, .iface t p]) ∧ Below w.heap.size w w' := by
  obtain ⟨T, ⟨p1, h1⟩, ⟨p2, h2⟩, ⟨p3, h3⟩⟩ := hu.T
  refine (fromUv A n c l w hs hm T p1 p2 p3 h1 h2 h3).mono fun e w' ⟨he, q, hw⟩ => ?_
  subst he
  rw [hw]
  cases hd : uvDec l with
  | ok => rw [hd] at h; exact False.elim h
  | _ => exact ⟨_, _, rfl, below_drewN _ _ _⟩

set_option maxRecDepth 100000 in
set_option maxHeartbeats 1000000 in
theorem muv_ok (A : Option Addr) (n c : Nat) (l : List UInt8) (w : World) (hs : BS w (.slice A n c) l) (hm : l.length ≤ 9223372036854775807) (hu : UvS w) (x m : Nat) (hd : uvDec l = .ok x m) :
    BS w (.slice (cutA A c m) (n - m) (c - m)) (l.drop m) ∧
    Calls Tryd.prog 119 #[.slice A n c] w fun e w' => e = .returned (.tuple #[.int .u64 x, .slice (cutA A c m) (n - m) (c - m), .nilIface]) ∧ Below w.heap.size w w' := by
  obtain ⟨hn, _⟩ := hs.slice
  obtain ⟨g1, g2, g3, _, _⟩ := uvDec_ok hd
  obtain ⟨hrun, hs'⟩ := hs.from_ (P := Tryd.prog) Tryd.underlying43 info_u8 m (by omega)
  refine ⟨hs', ?_⟩
  have m1 : ((m : Int) == 0) = false := by simp; omega
  have m2 : ¬ (m : Int) < 0 := by omega
  have HC := Lib.hid (fromUv_ok A n c l w hs hm hu x m hd)
  clear hd hn hs hu hs'
  go_enter Tryd.func119, Tryd.ntmps119
  go_wp2_with fail
  refine HC.out.mono ?_
  rintro e w1 ⟨rfl, hb⟩
  go_wp2
  go_quiet (fail)
  go_wp2
  go_ret3
  exact ⟨rfl, hb.drewN _⟩

set_option maxRecDepth 100000 in
set_option maxHeartbeats 1000000 in
theorem muv_no (A : Option Addr) (n c : Nat) (l : List UInt8) (w : World) (hs : BS w (.slice A n c) l) (hm : l.length ≤ 9223372036854775807) (hu : UvS w) (hd : (uvDec l).no) :
    Calls Tryd.prog 119 #[.slice A n c] w fun e w' => ∃ t p, e = .returned (.tuple #[.int .u64 0, .slice A n c, .iface t p]) ∧ Below w.heap.size w w' := by
  have HC := Lib.hid (fromUv_no A n c l w hs hm hu hd)
  clear hd hs hu
  go_enter Tryd.func119, Tryd.ntmps119
  go_wp2_with fail
  refine HC.out.mono ?_
  rintro e w1 ⟨t, p, rfl, hb⟩
  go_wp2
  go_ret3
  exact ⟨t, p, rfl, hb⟩

set_option maxRecDepth 100000 in
/-- errors.New: a pointer to a new block that holds the text. -/
theorem errorsNew_any (s : ByteArray) (w : World) :
    Calls Tryd.prog 103 #[.string s] w fun e w' => e = .returned (.iface 218 (.pointer (some ⟨w.heap.size, 0, none⟩))) ∧ w.alloc (.cells #[.string s] 220) = w' := by
  go_enter Tryd.func103, Tryd.ntmps103
  go_wp2
  go_ret
  exact ⟨rfl, rfl⟩
/-- .. told as an error that is not nil. -/
theorem errorsNew (s : ByteArray) (w : World) :
    Calls Tryd.prog 103 #[.string s] w fun e w' => ∃ t p, e = .returned (.iface t p) ∧ Below w.heap.size w w' :=
  (errorsNew_any s w).mono fun e w' ⟨he, hw⟩ => ⟨_, _, he, by rw [← hw]; exact (Below.refl _ _).alloc (Nat.le_refl _) _⟩

set_option maxRecDepth 100000 in
set_option maxHeartbeats 1000000 in
theorem mrd_ok (A : Option Addr) (n c : Nat) (l : List UInt8) (w : World) (hs : BS w (.slice A n c) l) (hm : l.length ≤ 2147483647) (hu : UvS w) (r code : Nat) (d : List UInt8) (hd : mhRd l = some (r, code, d)) :
    ∃ A' c', BS w (.slice A' d.length c') d ∧ ∀ w0, Below w.heap.size w w0 →
    Calls Tryd.prog 112 #[.slice A n c] w0 fun e w' => e = .returned (.tuple #[.int .i64 r, .int .u64 code, .slice A' d.length c', .nilIface]) ∧ Below w0.heap.size w0 w' := by
  obtain ⟨hn, _⟩ := hs.slice
  obtain ⟨h2, m1, x2, m2, e1, e2, hx, hx2, rfl, rfl⟩ := mhRd_some hd
  obtain ⟨g1, g2, g3, _, _⟩ := uvDec_ok e1
  obtain ⟨k1, k2, k3, _, _⟩ := uvDec_ok e2
  have hs1 := (muv_ok A n c l w hs (by omega) hu code m1 e1).1
  have hc1 : ∀ w0, Below w.heap.size w w0 → _ := fun w0 hb0 => (muv_ok A n c l w0 (hs.below hb0) (by omega) (hu.below hb0) code m1 e1).2
  have hl1 : (l.drop m1).length = l.length - m1 := by simp
  have hl2 : ((l.drop m1).drop m2).length = l.length - m1 - m2 := by rw [List.length_drop, List.length_drop]
  rw [hl1] at k2
  rw [hl2] at hx2
  have hx3 : x2 ≤ n - m1 - m2 := by omega
  have hlen : (((l.drop m1).drop m2).take x2).length = x2 := by rw [List.length_take, hl2]; omega
  have hc2 : ∀ w1, Below w.heap.size w w1 → BS w1 (.slice (cutA (cutA A c m1) (c - m1) m2) (n - m1 - m2) (c - m1 - m2)) ((l.drop m1).drop m2) ∧ Calls Tryd.prog 119 #[.slice (cutA A c m1) (n - m1) (c - m1)] w1 fun e w' =>
      e = .returned (.tuple #[.int .u64 x2, .slice (cutA (cutA A c m1) (c - m1) m2) (n - m1 - m2) (c - m1 - m2), .nilIface]) ∧ Below w1.heap.size w1 w' := fun w1 hb1 => muv_ok _ _ _ _ w1 (hs1.below hb1) (by rw [hl1]; omega) (hu.below hb1) x2 m2 e2
  obtain ⟨hrun, hrunu, hs3⟩ := (hc2 w (Below.refl _ _)).1.to_ (P := Tryd.prog) Tryd.underlying43 info_u8 x2 hx3
  rw [hlen]
  refine ⟨_, _, hs3, ?_⟩
  have HC1 := Lib.hid hc1
  have HC2 := Lib.hid hc2
  clear hc1 hc2 hs hs1 hs3 hd e1 e2 hlen hu hrun
  generalize cutA (cutA A c m1) (c - m1) m2 = A2 at *
  generalize cutA A c m1 = A1 at *
  generalize c - m1 - m2 = C2 at *
  generalize c - m1 = C1 at *
  have b1 : 2 ≤ n := by omega
  have b3 : n ≤ 2147483647 := by omega
  generalize hN1 : n - m1 = N1 at HC1 HC2 hrunu hx3 ⊢
  generalize hN2 : N1 - m2 = N2 at HC2 hrunu hx3 ⊢
  have b2 : N2 ≤ n := by omega
  have HR := Lib.hid (show (n : Int) - N2 + x2 = ((m1 + m2 + x2 : Nat) : Int) by omega)
  clear hl1 hl2 hN1 hN2 hn g1 g2 g3 k1 k2 k3 hx2 h2 hm
  intro w0 hb0
  go_enter Tryd.func112, Tryd.ntmps112
  go_wp2_with fail
  refine (HC1.out w0 hb0).mono ?_
  rintro e w1 ⟨rfl, hb1⟩
  go_wp2_with fail
  refine (HC2.out w1 (below_next hb0 hb1)).2.mono ?_
  rintro e w2 ⟨rfl, hb2⟩
  go_wp2
  go_quiet (fail)
  go_wp2
  refine bodyPost_ret (v := .tuple #[.int .i64 ((n : Int) - N2 + x2), .int .u64 code, .slice A2 x2 C2, .nilIface]) (by simp [results, Tryd.results112, go_sem]) rfl ⟨by rw [HR.out], (below_next hb1 hb2).drewN _⟩

set_option maxRecDepth 100000 in
set_option maxHeartbeats 1000000 in
theorem mrd_no (A : Option Addr) (n c : Nat) (l : List UInt8) (w : World) (hs : BS w (.slice A n c) l) (hm : l.length ≤ 2147483647) (hu : MhS w) (hd : mhRd l = none) :
    Calls Tryd.prog 112 #[.slice A n c] w fun e w' => ∃ t p, e = .returned (.tuple #[.int .i64 0, .int .u64 0, .slice none 0 0, .iface t p]) ∧ Below w.heap.size w w' := by
  obtain ⟨hn, _⟩ := hs.slice
  rcases mhRd_none hd with h2 | ⟨h2, hno | ⟨x1, m1, e1, h⟩⟩
  · obtain ⟨t, p, hsh⟩ := hu.short
    have b1 : n < 2 := by omega
    clear hs hu hd hn h2 hm
    go_enter Tryd.func112, Tryd.ntmps112
    go_wp2
    go_quiet (fail)
    go_wp2
    refine bodyPost_ret (v := .tuple #[.int .i64 0, .int .u64 0, .slice none 0 0, .iface t p]) (by simp [results, Tryd.results112, go_sem]) rfl ⟨t, p, rfl, below_drewN _ _ _⟩
  · have HC := Lib.hid (muv_no A n c l w hs (by omega) hu.toUvS hno)
    have b1 : 2 ≤ n := by omega
    clear hs hu hd hn h2 hm hno
    go_enter Tryd.func112, Tryd.ntmps112
    go_wp2_with fail
    refine HC.out.mono ?_
    rintro e w1 ⟨t, p, rfl, hb⟩
    go_wp2
    refine bodyPost_ret (v := .tuple #[.int .i64 0, .int .u64 0, .slice none 0 0, .iface t p]) (by simp [results, Tryd.results112, go_sem]) rfl ⟨t, p, rfl, hb⟩
  · obtain ⟨g1, g2, g3, _, _⟩ := uvDec_ok e1
    obtain ⟨hs1, hc1⟩ := muv_ok A n c l w hs (by omega) hu.toUvS x1 m1 e1
    have HC1 := Lib.hid hc1
    have hl1 : (l.drop m1).length = l.length - m1 := by simp
    have b1 : 2 ≤ n := by omega
    rcases h with hno | ⟨x2, m2, e2, h3⟩
    · have HC2 := Lib.hid (fun w1 (hb1 : Below w.heap.size w w1) => muv_no _ _ _ _ w1 (hs1.below hb1) (by rw [hl1]; omega) (hu.toUvS.below hb1) hno)
      clear hs hu hd hn h2 hm hno hs1 hc1 e1 g1 g2 g3 hl1
      generalize cutA A c m1 = A1 at *
      generalize n - m1 = N1 at *
      generalize c - m1 = C1 at *
      go_enter Tryd.func112, Tryd.ntmps112
      go_wp2_with fail
      refine HC1.out.mono ?_
      rintro e w1 ⟨rfl, hb1⟩
      go_wp2_with fail
      refine (HC2.out w1 hb1).mono ?_
      rintro e w2 ⟨t, p, rfl, hb2⟩
      go_wp2
      refine bodyPost_ret (v := .tuple #[.int .i64 0, .int .u64 0, .slice none 0 0, .iface t p]) (by simp [results, Tryd.results112, go_sem]) rfl ⟨t, p, rfl, below_next hb1 hb2⟩
    · obtain ⟨k1, k2, k3, k4, _⟩ := uvDec_ok e2
      have hx63 := uvDec_lt63 e2
      have hl2 : ((l.drop m1).drop m2).length = l.length - m1 - m2 := by rw [List.length_drop, List.length_drop]
      rw [hl2] at h3
      rw [hl1] at k2
      have HC2 := Lib.hid (fun w1 (hb1 : Below w.heap.size w w1) => (muv_ok _ _ _ _ w1 (hs1.below hb1) (by rw [hl1]; omega) (hu.toUvS.below hb1) x2 m2 e2).2)
      have h3' : 2147483647 < x2 ∨ (x2 ≤ 2147483647 ∧ n - m1 - m2 < x2) := by omega
      clear hs hu hd hn h2 hm hs1 hc1 e1 e2 g1 g2 g3 hl1 hl2 k1 k2 k3 k4 h3
      generalize cutA (cutA A c m1) (c - m1) m2 = A2 at *
      generalize cutA A c m1 = A1 at *
      generalize c - m1 - m2 = C2 at *
      generalize c - m1 = C1 at *
      generalize n - m1 - m2 = N2 at *
      generalize n - m1 = N1 at *
      rcases h3' with h3 | ⟨h3, h4⟩
      · go_enter Tryd.func112, Tryd.ntmps112
        go_wp2_with fail
        refine HC1.out.mono ?_
        rintro e w1 ⟨rfl, hb1⟩
        go_wp2_with fail
        refine (HC2.out w1 hb1).mono ?_
        rintro e w2 ⟨rfl, hb2⟩
        go_wp2_with fail
        refine (errorsNew _ w2).mono ?_
        rintro e w3 ⟨t, p, rfl, hb3⟩
        go_wp2
        refine bodyPost_ret (v := .tuple #[.int .i64 0, .int .u64 0, .slice none 0 0, .iface t p]) (by simp [results, Tryd.results112, go_sem]) rfl ⟨t, p, rfl, below_next (below_next hb1 hb2) hb3⟩
      · go_enter Tryd.func112, Tryd.ntmps112
        go_wp2_with fail
        refine HC1.out.mono ?_
        rintro e w1 ⟨rfl, hb1⟩
        go_wp2_with fail
        refine (HC2.out w1 hb1).mono ?_
        rintro e w2 ⟨rfl, hb2⟩
        go_wp2_with fail
        refine (errorsNew _ w2).mono ?_
        rintro e w3 ⟨t, p, rfl, hb3⟩
        go_wp2
        refine bodyPost_ret (v := .tuple #[.int .i64 0, .int .u64 0, .slice none 0 0, .iface t p]) (by simp [results, Tryd.results112, go_sem]) rfl ⟨t, p, rfl, below_next (below_next hb1 hb2) hb3⟩
end Go.Proofs.YthfgnhgijgjggaaDoor
/- Contracts of package multihash: Decode, MHFromBytes, Encode; and of impl's three entry points. -/
namespace Go.Proofs.YthfgnhgijgjggaaDoor
open Go.RowKit

theorem bcell {W w1 : World} (hb : Below W.heap.size W w1) : (∀ b o, b < W.heap.size → w1.cell? ⟨b, o, none⟩ = W.cell? ⟨b, o, none⟩) ∧ (∀ b o, b < W.heap.size → w1.frozen? ⟨b, o, none⟩ = W.frozen? ⟨b, o, none⟩) :=
  ⟨fun b o h => hb.cell (p := ⟨b, o, none⟩) h, fun b o h => hb.frozen (p := ⟨b, o, none⟩) h⟩

set_option maxRecDepth 100000 in
set_option maxHeartbeats 1000000 in
theorem decode_ok (A : Option Addr) (n c : Nat) (l : List UInt8) (w : World) (hs : BS w (.slice A n c) l) (hm : l.length ≤ 2147483647) (hu : UvS w) (code : Nat) (d : List UInt8) (hd : mhRd l = some (n, code, d)) :
    ∃ A' c', BS w (.slice A' d.length c') d ∧ ∀ w0, Below w.heap.size w w0 →
    Calls Tryd.prog 98 #[.slice A n c] w0 fun e w' => e = .returned (.tuple #[.agg #[.int .u64 code, .string ⟨#[]⟩, .int .i64 d.length, .slice A' d.length c'], .nilIface]) ∧ Below w0.heap.size w0 w' := by
  obtain ⟨hn, _⟩ := hs.slice
  obtain ⟨A', c', hs', hc⟩ := mrd_ok A n c l w hs hm hu _ _ _ hd
  refine ⟨A', c', hs', ?_⟩
  intro w0 hb0
  have HC := Lib.hid hc
  generalize d.length = D at *
  have b3 : n ≤ 9223372036854775807 := by omega
  clear hs hn hs' hc hu hd hm
  go_enter Tryd.func98, Tryd.ntmps98
  go_wp2_with fail
  refine (HC.out _ (hb0.trans ((Below.refl _ _).alloc hb0.size _))).mono ?_
  rintro e w1 ⟨rfl, hb1⟩
  obtain ⟨hc, hf⟩ := bcell hb1
  have hz := hb1.size
  simp only [World.size_alloc] at hz hc hf
  go_wp2
  have hrow : w1.heap[w0.heap.size]? = some (.cells #[.int .u64 0, .string ⟨#[]⟩, .int .i64 0, .slice none 0 0] 135 (0, 0)) := row_below hb1 (by simp) (heap_alloc_new _ _)

  refine bodyPost_ret (results_row_tmp rfl _ _ w0.heap.size 135 #[.int .u64 code, .string ⟨#[]⟩, .int .i64 D, .slice A' D c'] (0, 0) _ ?h1 ?h2 Tryd.underlying135 rfl ?h5) ?h6 ?h7

  case h1 => rfl

  case h2 => simp [World.setCell, Array.getElem?_modify, hrow]

  case h5 => kernel_rfl

  case h6 => rfl

  refine ⟨rfl, ?_⟩

  have hb2 : Below w0.heap.size w0 w1 := by
    have h0 : Below w0.heap.size w0 (w0.alloc (Obj.cells #[Value.int IntKind.u64 0, Value.string { data := #[] }, Value.int IntKind.i64 0, Value.slice none 0 0] 135)) := (Below.refl _ _).alloc (Nat.le_refl _) _
    exact below_next h0 hb1
  clear hc hf hrow HC
  exact (((((((hb2.setCell (by exact Nat.le_refl _) _).setCell (by exact Nat.le_refl _) _).setCell (by exact Nat.le_refl _) _).setCell (by exact Nat.le_refl _) _).setCell (by exact Nat.le_refl _) _).setCell (by exact Nat.le_refl _) _).setCell (by exact Nat.le_refl _) _).setCell (by exact Nat.le_refl _) _

def DmBad (e : Ending) : Prop := ∃ (a : Int) (s : ByteArray) (b : Int) (A : Option Addr) (n c : Nat) (t : TypeId) (p : Value), e = .returned (.tuple #[.agg #[.int .u64 a, .string s, .int .i64 b, .slice A n c], .iface t p])

set_option maxRecDepth 100000 in
set_option maxHeartbeats 1000000 in
theorem decode_more (A : Option Addr) (n c : Nat) (l : List UInt8) (w : World) (hs : BS w (.slice A n c) l) (hm : l.length ≤ 2147483647) (hu : UvS w) (r code : Nat) (d : List UInt8) (hd : mhRd l = some (r, code, d)) (hr : r ≠ n) :
    Calls Tryd.prog 98 #[.slice A n c] w fun e w' => DmBad e ∧ Below w.heap.size w w' := by
  obtain ⟨hn, _⟩ := hs.slice
  obtain ⟨A', c', hs', hc⟩ := mrd_ok A n c l w hs hm hu _ _ _ hd
  have HC := Lib.hid hc
  generalize d.length = D at *
  have b3 : n ≤ 9223372036854775807 := by omega
  have b4 : ((n : Int) != r) = true := by rw [bne_iff_ne]; omega
  clear hs hn hs' hc hu hd hm hr
  go_enter Tryd.func98, Tryd.ntmps98
  go_wp2_with fail
  refine (HC.out _ ((Below.refl _ _).alloc (Nat.le_refl _) _)).mono ?_
  rintro e w1 ⟨rfl, hb1⟩
  have h0 : Below w.heap.size w (w.alloc (Obj.cells #[Value.int IntKind.u64 0, Value.string { data := #[] }, Value.int IntKind.i64 0, Value.slice none 0 0] 135)) := (Below.refl _ _).alloc (Nat.le_refl _) _
  have hb2 := below_next h0 hb1
  obtain ⟨hc, hf⟩ := bcell hb1
  have hz := hb1.size
  simp only [World.size_alloc] at hz hc hf
  go_wp2
  have hrow : w1.heap[w.heap.size]? = some (.cells #[.int .u64 0, .string ⟨#[]⟩, .int .i64 0, .slice none 0 0] 135 (0, 0)) := row_below hb1 (by simp) (heap_alloc_new _ _)
  refine bodyPost_ret (results_row_tmp rfl _ _ w.heap.size 135 #[.int .u64 code, .string ⟨#[]⟩, .int .i64 D, .slice A' D c'] (0, 0) _ ?h1 ?h2 Tryd.underlying135 rfl ?h5) ?h6 ?h7
  case h1 => rfl
  case h2 => simp [World.setCell, Array.getElem?_modify, hrow]
  case h5 => kernel_rfl
  case h6 => rfl
  refine ⟨⟨_, _, _, _, _, _, _, _, rfl⟩, ?_⟩
  exact ((((((((hb2.setCell (by exact Nat.le_refl _) _).setCell (by exact Nat.le_refl _) _).setCell (by exact Nat.le_refl _) _).setCell (by exact Nat.le_refl _) _).setCell (by exact Nat.le_refl _) _).setCell (by exact Nat.le_refl _) _).setCell (by exact Nat.le_refl _) _).setCell (by exact Nat.le_refl _) _)

set_option maxRecDepth 100000 in
set_option maxHeartbeats 1000000 in
theorem decode_no (A : Option Addr) (n c : Nat) (l : List UInt8) (w : World) (hs : BS w (.slice A n c) l) (hm : l.length ≤ 2147483647) (hu : MhS w) (hd : mhRd l = none) :
    Calls Tryd.prog 98 #[.slice A n c] w fun e w' => DmBad e ∧ Below w.heap.size w w' := by
  have h0 : Below w.heap.size w (w.alloc (Obj.cells #[Value.int IntKind.u64 0, Value.string { data := #[] }, Value.int IntKind.i64 0, Value.slice none 0 0] 135)) := (Below.refl _ _).alloc (Nat.le_refl _) _
  have HC := Lib.hid (mrd_no A n c l _ (hs.below h0) hm (hu.below h0) hd)
  clear hs hu hd hm
  go_enter Tryd.func98, Tryd.ntmps98
  go_wp2_with fail
  refine HC.out.mono ?_
  rintro e w1 ⟨t, p, rfl, hb1⟩
  have hb2 := below_next h0 hb1
  obtain ⟨hc, hf⟩ := bcell hb1
  have hz := hb1.size
  simp only [World.size_alloc] at hz hc hf
  go_wp2
  have hrow : w1.heap[w.heap.size]? = some (.cells #[.int .u64 0, .string ⟨#[]⟩, .int .i64 0, .slice none 0 0] 135 (0, 0)) := row_below hb1 (by simp) (heap_alloc_new _ _)
  refine bodyPost_ret (results_row_tmp rfl _ _ w.heap.size 135 #[.int .u64 0, .string ⟨#[]⟩, .int .i64 0, .slice none 0 0] (0, 0) _ ?h1 ?h2 Tryd.underlying135 rfl ?h5) ?h6 ?h7
  case h1 => rfl
  case h2 => simp [World.setCell, Array.getElem?_modify, hrow]
  case h5 => kernel_rfl
  case h6 => rfl
  refine ⟨⟨_, _, _, _, _, _, t, p, rfl⟩, ?_⟩
  exact ((((hb2.setCell (by exact Nat.le_refl _) _).setCell (by exact Nat.le_refl _) _).setCell (by exact Nat.le_refl _) _).setCell (by exact Nat.le_refl _) _)

/-- A pointer to a new block that holds what a multihash was taken apart to. -/
def DmPtr (w w' : World) (code : Nat) (A : Option Addr) (D c : Nat) (e : Ending) : Prop := ∃ g, e = .returned (.tuple #[.pointer (some ⟨g, 0, none⟩), .nilIface]) ∧ w.heap.size ≤ g ∧
  w'.heap[g]? = some (.cells #[.int .u64 code, .string ⟨#[]⟩, .int .i64 D, .slice A D c] 135 (0, 0))

set_option maxRecDepth 100000 in
set_option maxHeartbeats 1000000 in
theorem Decode_ok (A : Option Addr) (n c : Nat) (l : List UInt8) (w : World) (hs : BS w (.slice A n c) l) (hm : l.length ≤ 2147483647) (hu : UvS w) (code : Nat) (d : List UInt8) (hd : mhRd l = some (n, code, d)) :
    ∃ A' c', BS w (.slice A' d.length c') d ∧ ∀ w0, Below w.heap.size w w0 →
    Calls Tryd.prog 72 #[.slice A n c] w0 fun e w' => DmPtr w0 w' code A' d.length c' e ∧ Below w0.heap.size w0 w' := by
  obtain ⟨A', c', hs', hc⟩ := decode_ok A n c l w hs hm hu _ _ hd
  refine ⟨A', c', hs', ?_⟩
  intro w0 hb0
  have HC := Lib.hid (hc w0 hb0)
  generalize d.length = D at *
  clear hs hs' hc hu hd hm
  go_enter Tryd.func72, Tryd.ntmps72
  go_wp2_with fail
  refine HC.out.mono ?_
  rintro e w1 ⟨rfl, hb1⟩
  go_wp2
  go_ret2
  refine ⟨⟨_, rfl, hb1.size, ?_⟩, ?_⟩
  · exact heap_alloc_new _ _
  · exact hb1.alloc hb1.size _

/-- nil, and an error. -/
def PtrBad (e : Ending) : Prop := ∃ t p, e = .returned (.tuple #[.pointer none, .iface t p])

set_option maxRecDepth 100000 in
set_option maxHeartbeats 1000000 in
theorem Decode_bad (A : Option Addr) (n c : Nat) (l : List UInt8) (w : World) (hs : BS w (.slice A n c) l) (hm : l.length ≤ 2147483647) (hu : MhS w) (hd : ∀ code d, mhRd l ≠ some (n, code, d)) :
    Calls Tryd.prog 72 #[.slice A n c] w fun e w' => PtrBad e ∧ Below w.heap.size w w' := by
  have hc : Calls Tryd.prog 98 #[.slice A n c] w fun e w' => DmBad e ∧ Below w.heap.size w w' := by
    cases h : mhRd l with
    | none => exact decode_no A n c l w hs hm hu h
    | some x =>
      obtain ⟨r, code, d⟩ := x
      exact decode_more A n c l w hs hm hu.toUvS r code d h (fun e => hd code d (by rw [h, e]))
  have HC := Lib.hid hc
  clear hs hu hd hm hc
  go_enter Tryd.func72, Tryd.ntmps72
  go_wp2_with fail
  refine HC.out.mono ?_
  rintro e w1 ⟨⟨a, s, b, A1, n1, c1, t, p, rfl⟩, hb1⟩
  go_wp2
  go_ret2
  exact ⟨⟨t, p, rfl⟩, hb1.alloc hb1.size _⟩

set_option maxRecDepth 100000 in
set_option maxHeartbeats 1000000 in
theorem MHFrom_ok (A : Option Addr) (n c : Nat) (l : List UInt8) (w : World) (hs : BS w (.slice A n c) l) (hm : l.length ≤ 2147483647) (hu : UvS w) (r code : Nat) (d : List UInt8) (hd : mhRd l = some (r, code, d)) (hr : r ≤ n) :
    BS w (.slice A r c) (l.take r) ∧
    Calls Tryd.prog 105 #[.slice A n c] w fun e w' => e = .returned (.tuple #[.int .i64 r, .slice A r c, .nilIface]) ∧ Below w.heap.size w w' := by
  obtain ⟨A', c', _, hc⟩ := mrd_ok A n c l w hs hm hu _ _ _ hd
  obtain ⟨hrun, _, hs2⟩ := hs.to_ (P := Tryd.prog) Tryd.underlying43 info_u8 r hr
  refine ⟨hs2, ?_⟩
  have HC := Lib.hid (hc w (Below.refl _ _))
  generalize d.length = D at *
  clear hs hc hu hd hm hs2 hr
  go_enter Tryd.func105, Tryd.ntmps105
  go_wp2_with fail
  refine HC.out.mono ?_
  rintro e w1 ⟨rfl, hb1⟩
  go_wp2
  go_quiet (fail)
  go_wp2
  go_ret3
  exact ⟨rfl, hb1.drewN _⟩

set_option maxRecDepth 100000 in
set_option maxHeartbeats 1000000 in
theorem MHFrom_no (A : Option Addr) (n c : Nat) (l : List UInt8) (w : World) (hs : BS w (.slice A n c) l) (hm : l.length ≤ 2147483647) (hu : MhS w) (hd : mhRd l = none) :
    Calls Tryd.prog 105 #[.slice A n c] w fun e w' => ∃ t p, e = .returned (.tuple #[.int .i64 0, .slice none 0 0, .iface t p]) ∧ Below w.heap.size w w' := by
  have HC := Lib.hid (mrd_no A n c l w hs hm hu hd)
  clear hs hu hd hm
  go_enter Tryd.func105, Tryd.ntmps105
  go_wp2_with fail
  refine HC.out.mono ?_
  rintro e w1 ⟨t, p, rfl, hb1⟩
  go_wp2
  go_ret3
  exact ⟨t, p, rfl, hb1⟩

/-- A string made to bytes: where the contracts begin. -/
theorem conv_in (w : World) (s : ByteArray) : ∃ c w1, (convert 9 43 (.string s)).run Tryd.prog w = .ok (.slice (some ⟨w.heap.size, 0, none⟩) s.size c) w1 ∧ Below w.heap.size w w1 ∧ BS w1 (.slice (some ⟨w.heap.size, 0, none⟩) s.size c) s.data.toList := by
  obtain ⟨c, w1, hconv, hc, hb, hsz, _, hcells⟩ := conv_bytes (P := Tryd.prog) Tryd.underlying9 Tryd.underlying43 Tryd.underlying5 w s
  have hlen : s.data.toList.length = s.size := by rw [Array.length_toList]; rfl
  have HS := BS.of_cells (w := w1) (b := w.heap.size) (o := 0) (c := c) (l := s.data.toList) (by omega) hcells
  rw [hlen] at HS
  exact ⟨c, w1, hconv, hb, HS⟩



end Go.Proofs.YthfgnhgijgjggaaDoor
/- Contracts of a strings.Builder that has been grown: copyCheck, WriteByte, Write. -/
namespace Go.Proofs.YthfgnhgijgjggaaDoor
open Go.RowKit

abbrev BldAt (B b : Nat) (bs : List Value) (w : World) : Prop := Lib.BuilderAt 182 5 B b (.pointer (some ⟨b, 0, none⟩)) bs w

theorem bldInfo : ∃ j, Tryd.prog.info? 182 = some j := by
  have h : (Tryd.prog.info? 182).map (·.size) = some 2 := by kernel_rfl
  obtain ⟨i, hi, _⟩ := Option.map_eq_some_iff.1 h
  exact ⟨i, hi⟩

set_option maxRecDepth 100000 in
set_option maxHeartbeats 1000000 in
theorem copyCheck_used (b : Nat) (w : World) (h0 : w.cell? ⟨b, 0, none⟩ = some (.pointer (some ⟨b, 0, none⟩))) :
    Calls Tryd.prog 110 #[.pointer (some ⟨b, 0, none⟩)] w fun e w' => e = .returned (.tuple #[]) ∧ w = w' := by
  obtain ⟨j, hj⟩ := bldInfo
  have hne := Lib.run_neq_ptr_same (P := Tryd.prog) w ⟨b, 0, none⟩ Tryd.underlying180 hj
  go_enter Tryd.func110, Tryd.ntmps110
  go_wp2
  go_end0
  exact ⟨rfl, rfl⟩

theorem bld_neB : (182 : TypeId) ≠ 5 := by decide
theorem info_u8p : ∃ i, Tryd.prog.info? 5 = some i ∧ i.zero = some (.int .u8 0) ∧ i.size = 1 ∧ i.bytes = 1 := by
  obtain ⟨i, hi, h2⟩ := Option.map_eq_some_iff.1 info_u8
  simp only [Prod.mk.injEq] at h2
  exact ⟨i, hi, h2.1, h2.2.1, h2.2.2⟩

set_option maxRecDepth 100000 in
set_option maxHeartbeats 2000000 in
theorem bldWriteByte (B b : Nat) (bs : List Value) (c : Int) (w : World) (h : BldAt B b bs w) (hlen : bs.length + 1 ≤ 140737488355328) (hBw : B ≤ w.heap.size) :
    Calls Tryd.prog 95 #[.pointer (some ⟨b, 0, none⟩), .int .u8 c] w fun e w' => e = .returned .nilIface ∧ BldAt B b (bs ++ [.int .u8 c]) w' ∧ Below B w w' := by
  obtain ⟨i0, hi, hz0, hz1, hz2⟩ := info_u8p
  obtain ⟨hB, v, hbk, hown, hne⟩ := h
  have c0 : w.cell? ⟨b, 0, none⟩ = some (.pointer (some ⟨b, 0, none⟩)) := by rw [Lib.cell_of_heap hbk]; rfl
  have c1 : w.cell? ⟨b, 1, none⟩ = some v := by rw [Lib.cell_of_heap hbk]; rfl
  go_enter Tryd.func95, Tryd.ntmps95
  go_wp2_with fail
  refine (copyCheck_used b w c0).mono ?_
  rintro e w1 ⟨rfl, rfl⟩
  go_wp2_with (at_builtin; refine wpList_append_own _ rfl _ _ 43 rfl B 5 i0 (.int .u8 0) 1 1 Tryd.underlying43 hi hz0 hz1 hz2 rfl (by decide) _ _ _ rfl (hown.alloc _) ⟨w.heap.size, 0, none⟩ 1 1 [.int .u8 c] rfl rfl ?c1 ?c2 ?c3 ?c4 ?c5 ?_)
  case c1 =>
    intro j u hj
    match j, hj with
    | 0, hj => simp at hj; subst hj; simp [Addr.add]
  case c2 => intro u hu; simp at hu; subst hu; rfl
  case c3 => unfold maxLen; omega
  case c4 => omega
  case c5 => simp; omega
  intro v' w2 hown' hgrow _
  have hlt : b < w.heap.size := block_of_row hbk
  have hb2 : w2.heap[b]? = some (.cells #[.pointer (some ⟨b, 0, none⟩), v] 182 (0, 0)) := by
    rw [hgrow.block b (by simp; omega) (fun e => hne e.symm), Lib.alloc_old w _ b hlt]
    exact hbk
  have d0 : w2.cell? ⟨b, 0, none⟩ = some (.pointer (some ⟨b, 0, none⟩)) := by rw [Lib.cell_of_heap hb2]; rfl
  have d1 : w2.cell? ⟨b, 1, none⟩ = some v := by rw [Lib.cell_of_heap hb2]; rfl
  have f1 : w2.frozen? ⟨b, 1, none⟩ = false := Lib.frozen_of_heap hb2 1
  obtain ⟨g, cap, rfl⟩ : ∃ g cap, v' = .slice (some ⟨g, 0, none⟩) (bs.length + 1) cap := by
    rcases hown'.2 with ⟨_, h0⟩ | ⟨g, cap, cur, hv, _⟩
    · omega
    · exact ⟨g, cap, hv⟩
  go_wp2
  go_ret
  refine ⟨rfl, ?_, ?_⟩
  · exact Lib.BuilderAt.put (T := 182) (e := 5) hB hb2 (bs' := bs ++ [.int .u8 c]) (by simpa using hown') bld_neB
  · exact (((Below.refl B w).alloc hBw _).grown hgrow (by simp; omega) (fun k hk => (hown.lt k hk).1)).setCell (p := ⟨b, 1, none⟩) hB _

set_option maxRecDepth 100000 in
set_option maxHeartbeats 2000000 in
theorem bldWrite (B b : Nat) (bs : List Value) (A : Option Addr) (n c : Nat) (l : List UInt8) (w : World) (h : BldAt B b bs w) (hs : BS w (.slice A n c) l) (hn : 0 < n) (hlen : bs.length + n ≤ 140737488355328) (hBw : B ≤ w.heap.size) :
    Calls Tryd.prog 96 #[.pointer (some ⟨b, 0, none⟩), .slice A n c] w fun e w' => e = .returned (.tuple #[.int .i64 n, .nilIface]) ∧ BldAt B b (bs ++ Lib.byteCells l) w' ∧ Below B w w' := by
  obtain ⟨i0, hi, hz0, hz1, hz2⟩ := info_u8p
  obtain ⟨hB, v, hbk, hown, hne⟩ := h
  obtain ⟨hnl, _⟩ := hs.slice
  obtain ⟨b', o', rfl, hcl⟩ := hs.at_ hn
  have c0 : w.cell? ⟨b, 0, none⟩ = some (.pointer (some ⟨b, 0, none⟩)) := by rw [Lib.cell_of_heap hbk]; rfl
  have c1 : w.cell? ⟨b, 1, none⟩ = some v := by rw [Lib.cell_of_heap hbk]; rfl
  have hnews : ∀ j u, (Lib.byteCells l)[j]? = some u → w.cell? ((⟨b', o', none⟩ : Addr).add j) = some u := fun j u hv => by
    have hj : j < l.length := by
      rcases Nat.lt_or_ge j l.length with h | h
      · exact h
      · rw [List.getElem?_eq_none (by rw [Lib.byteCells_length]; exact h)] at hv; cases hv
    have ead : (⟨b', o', none⟩ : Addr).add j = ⟨b', o' + j, none⟩ := by by_cases h : j = 0 <;> simp [Addr.add, h]
    rw [ead, hcl j hj]
    simp [Lib.byteCells, List.getElem?_eq_getElem hj] at hv
    rw [hv]
  have hl : (Lib.byteCells l).length = n := by rw [Lib.byteCells_length]; exact hnl.symm
  generalize hNW : Lib.byteCells l = news at hnews hl
  have h1 : ∀ u ∈ news, u.oneCell' = true := by rw [← hNW]; exact Lib.byteCells_one l
  clear hNW hcl hs
  have HN := Lib.hid hnl
  have HL := Lib.hid hl
  have HNE := Lib.hid hnews
  clear hnl hl hnews
  go_enter Tryd.func96, Tryd.ntmps96
  go_wp2_with fail
  refine (copyCheck_used b w c0).mono ?_
  rintro e w1 ⟨rfl, rfl⟩
  go_wp2_with (at_builtin; refine wpList_append_own _ rfl _ _ 43 rfl B 5 i0 (.int .u8 0) 1 1 Tryd.underlying43 hi hz0 hz1 hz2 rfl (by decide) _ _ _ rfl hown ⟨b', o', none⟩ n c news rfl (by rw [HL.out]; omega) HNE.out h1 ?c3 ?c4 ?c5 ?_)
  case c3 => unfold maxLen; omega
  case c4 => omega
  case c5 => omega
  intro v' w2 hown' hgrow _
  have hlt : b < w.heap.size := block_of_row hbk
  have hb2 : w2.heap[b]? = some (.cells #[.pointer (some ⟨b, 0, none⟩), v] 182 (0, 0)) := by
    rw [hgrow.block b hlt (fun e => hne e.symm)]
    exact hbk
  have d0 : w2.cell? ⟨b, 0, none⟩ = some (.pointer (some ⟨b, 0, none⟩)) := by rw [Lib.cell_of_heap hb2]; rfl
  have d1 : w2.cell? ⟨b, 1, none⟩ = some v := by rw [Lib.cell_of_heap hb2]; rfl
  have f1 : w2.frozen? ⟨b, 1, none⟩ = false := Lib.frozen_of_heap hb2 1
  obtain ⟨ao, n', cap, rfl⟩ : ∃ ao n' cap, v' = .slice ao n' cap := by
    rcases hown'.2 with ⟨hv, _⟩ | ⟨g, cap, cur, hv, _⟩
    · exact ⟨_, _, _, hv⟩
    · exact ⟨_, _, _, hv⟩
  go_wp2
  go_ret2
  refine ⟨rfl, ?_, ?_⟩
  · exact Lib.BuilderAt.put (T := 182) (e := 5) hB hb2 (bs' := bs ++ news) (by rw [List.length_append, HL.out]; exact hown') bld_neB
  · exact ((Below.refl B w).grown hgrow hBw (fun k hk => (hown.lt k hk).1)).setCell (p := ⟨b, 1, none⟩) hB _
end Go.Proofs.YthfgnhgijgjggaaDoor
